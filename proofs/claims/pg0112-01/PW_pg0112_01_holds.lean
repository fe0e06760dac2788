import PyProof.Rows.All
import Wide.All
import OpenK.AllK
import Wide.FinOn
import PySem.Challenge.RW_pg0112_01
open PySem PySem.W PyProof.Rows
set_option Elab.async false
set_option maxRecDepth 100000
set_option maxHeartbeats 8000000
namespace Mine
-- the written heap and the view are made by the kit's head, run for their sake alone (its own goals are set aside); what the head asks is shown below
theorem keepT {T U V G : Prop} (hl : T) (hw : U) (hc : V) (main : G) : G := main
theorem hd (f : False) (said : PySem.Challenge.rw_pg0112_01.row.wellSaid = true) : PySem.W.OpenRow.Holds PySem.Challenge.rw_pg0112_01.row := by
  apply keepT
  case main => k_head
  all_goals exact f.elim
theorem left_boot {p q : Program} {loose : List Str} {Xt : Shared → Bool} {α : Type} {Yf : Shared → α} {Ya : World → α} {N : Nat} {g0 : Bool}
    (o : ∀ w : World, (fencedOpening treeTable p w N).map (fun s => (s.heap, s.gens, s.drawn, s.toks)) = some (boot_heap w.params, Array.mk [], boot_drawn, boot_toks))
    (h : ∀ w os, (topFrom treeTable p w N ⟨boot_heap w.params, Array.mk [], boot_drawn, boot_toks, os⟩).map (fun s => (openSeen q loose (importedModules p.main.body) Xt g0 s, Yf s)) = some (openGood q loose, Ya w)) :
    LeftO p q loose Xt Yf Ya N g0 := fun w => by
  obtain ⟨⟨a, b, c, d, os⟩, e, e'⟩ := Option.map_eq_some_iff.mp (o w)
  obtain ⟨rfl, rfl, rfl, rfl⟩ : a = boot_heap w.params ∧ b = Array.mk [] ∧ c = boot_drawn ∧ d = boot_toks := by simpa using e'
  unfold openEnds
  rw [e]
  exact h w os
noncomputable abbrev lawRow := PySem.Challenge.rw_pg0112_01.row
noncomputable abbrev asK : List Addr := [2, 3, 6, 15, 17, 18, 20, 21, 22, 24, 25, 27, 28, 29, 31, 32, 34, 35, 36, 38, 39, 41, 42, 43, 45, 46, 48, 49, 57, 59, 60, 62, 63, 64, 66, 67, 69, 70, 71, 73, 74, 76, 77, 78, 80, 81, 83, 84, 85, 86, 87, 88, 89, 92, 94, 95, 97, 98, 99, 102, 103, 104, 107, 108, 109, 111, 112, 114, 115, 116, 119, 120, 121, 124, 125, 126, 129, 130, 131, 134, 135]
noncomputable abbrev hook : Hook := kmHook Mine.hd.heap_1 asK (fun _ => by kernel_rfl) [93]
theorem opens : ∀ w : World, (fencedOpening treeTable lawRow.prog w 1628).map (fun s => (s.heap, s.gens, s.drawn, s.toks)) = some (boot_heap w.params, Array.mk [], boot_drawn, boot_toks) :=
  boot_open (by kernel_rfl) (by kernel_rfl) (fun s => by kernel_rfl)
theorem left : LeftO lawRow.prog Mine.hd.view_1 [] (fun s => xlAt Mine.hd.view_1 [] s && recOk (RowW.records lawRow.toRowW) s) (Hook.obs hook) (Hook.val hook) 1628 := by
  refine left_boot opens fun w os => ?_
  unfold topFrom
  rw [PySem.W.Fast.te14082659384304107361, PySem.W.Fast.te14364793385576792824, PySem.W.Fast.te4187177175401517315]
  kernel_rfl
theorem ok0 : (chainsOk Mine.hd.view_1 && opensWell lawRow.prog && (frees lawRow.toRowW && lawRow.within.isEmpty)) = true := by kernel_rfl
theorem bare0 : PySem.Challenge.rw_pg0112_01.row.prog.bare := ⟨rfl, rfl, rfl, rfl, rfl, by decide +kernel⟩
theorem wit0 : PySem.Challenge.rw_pg0112_01.row.toRowW.promised := by w_witness2
open PySem.Calls PySem.Spec
section
noncomputable abbrev Key := Int × Int × Int
noncomputable def keyLt (a b : Key) : Bool := decide (a.1 < b.1 ∨ (a.1 = b.1 ∧ (a.2.1 < b.2.1 ∨ (a.2.1 = b.2.1 ∧ a.2.2 < b.2.2))))

/-- the Around that a contract is said at -/
noncomputable abbrev Ar (d u : Nat) (fr : List Env) (gd : Option (List Code)) : Around := { handled := none, depth := d, frames := some fr, guards := gd, units := u }

theorem lift {α : Type} {M : Model} {A : Around} {t : Sem α} {Q : α → Shared → Prop} {E : Value → Shared → Prop} {s : Shared} {fr : List Env} {d u : Nat}
    (hh : A.handled = none) (hd : A.depth ≤ d) (hf : A.frames = some fr) (hu : A.units ≤ u) (h : wpAny M (Ar d u fr A.guards) t Q E s) : wpAny M A t Q E s :=
  fun Γ p hΓ => h Γ p ⟨hΓ.1.trans hh, Nat.le_trans hΓ.2.1 hd, fun l hl => hΓ.2.2.1 l (hf.trans hl), hΓ.2.2.2.1, Nat.le_trans hΓ.2.2.2.2 hu⟩
theorem liftC {M : Model} {A : Around} {c : Code} {R : Result → Shared → Prop} {s : Shared} {fr : List Env} {d u : Nat}
    (hh : A.handled = none) (hd : A.depth ≤ d) (hf : A.frames = some fr) (hu : A.units ≤ u) (h : codeAny M (Ar d u fr A.guards) c R s) : codeAny M A c R s :=
  fun Γ p hc hΓ => h Γ p hc ⟨hΓ.1.trans hh, Nat.le_trans hΓ.2.1 hd, fun l hl => hΓ.2.2.1 l (hf.trans hl), hΓ.2.2.2.1, Nat.le_trans hΓ.2.2.2.2 hu⟩

/-- where a walk stops -/
theorem stW {M : Model} {A : Around} {a b c d e Q E s} (h : wpAny M A (exec (Stmt.While a b c d) e) Q E s) : wpAny M A (exec (Stmt.While a b c d) e) Q E s := h
theorem stF {M : Model} {A : Around} {a b c d f e Q E s} (h : wpAny M A (exec (Stmt.For a b c d f) e) Q E s) : wpAny M A (exec (Stmt.For a b c d f) e) Q E s := h
theorem stL {M : Model} {A : Around} {a b c d e Q E s} (h : wpAny M A (eval (Expr.ListComp a b c d) e) Q E s) : wpAny M A (eval (Expr.ListComp a b c d) e) Q E s := h
theorem stC {M : Model} {A : Around} {a b c Q E s} (h : wpAny M A (PySem.call (Value.ref a) b c) Q E s) : wpAny M A (PySem.call (Value.ref a) b c) Q E s := h
theorem stT {M : Model} {A : Around} {a Q E s} (h : wpAny M A (truthy (Value.bool a)) Q E s) : wpAny M A (truthy (Value.bool a)) Q E s := h
theorem stX {M : Model} {A : Around} {a b Q E s} (h : wpAny M A (execs a b) Q E s) : wpAny M A (execs a b) Q E s := h

theorem Fr.form {h₀ h : Heap} {L : Addr} {m : Str → Option Value} (ps : List (Str × Value)) (F : Fr h₀ L h m) (hp : ∀ p ∈ ps, m p.1 = some p.2) : Fr h₀ L h (kstB m ps) := by
  have : kstB m ps = m := by
    funext z
    exact kstB_eq hp fun _ => rfl
  rw [this]; exact F

section
variable {prog : Program} {w : World} {A : Around} {E : Value → Shared → Prop} {s : Shared}

theorem item_gen {value slice : PySem.Expr} {l : Addr} {vs : List Value} {k : Int} {u : Tok} {Q : Value → Shared → Prop}
    (hl : s.heap.IsList l vs.toArray) (h0 : 0 ≤ k) (hhi : k < vs.length) (hsz : vs.length < 1000) (h : Q (vs.getD k.toNat .none) s)
    (hs : subscripted slice false (.ref l) (.int k u) = operate [.ref l, .int k u] (getItem (.ref l) (.int k u)) := by with_unfolding_all rfl) :
    wpAny (model prog w) A (subscriptTail value slice (.ref l) (.int k u)) Q E s := by
  have hk : k.toNat < vs.length := by lia
  exact tail_any hl.typeIs slot_list_getitem.lookup (wpAny_getItem_list hl h0 (by lia) (by simp [hk]) h) hs

theorem store_gen {h₀ : Heap} {L D : Addr} {m : Str → Option Value} {rest : List (Addr × Obj)} {vs : List Value} {n : Nat} {k : Int} {t : Tok} {v : Value}
    {Q : Unit → Shared → Prop} (F : Fr h₀ L s.heap m) (N : News h₀ L s.heap ((D, listOf vs.toArray n) :: rest)) (hne : ∀ p ∈ rest, p.1 ≠ D) (h0 : 0 ≤ k) (h1 : k < vs.length) (hsz : vs.length < 1000)
    (h : ∀ h', Fr h₀ L h' m → News h₀ L h' ((D, listOf (vs.set k.toNat v).toArray n) :: rest) → Q () { s with heap := h' }) :
    wpAny (model prog w) A (setItem (.ref D) (.int k t) v) Q E s := by
  have z := N (D, listOf vs.toArray n) (.head _)
  refine ki_setAt z.1 h0 (by lia) (by rw [List.size_toArray]; exact h1) (h _ (F.change (Heap.SameBut.update ..) z.2.1 z.2.2) (ki_turn (pre := []) _ N (fun _ hp => nomatch hp) hne ?_ ?_))
  · show vs.toArray.setIfInBounds k.toNat v = (vs.set k.toNat v).toArray
    apply Array.toList_inj.mp
    simp
  · simp

/-- a tuple of three ints stands at a -/
noncomputable def IsKey (h : Heap) (a : Addr) (k : Key) : Prop := ∃ d n sl t1 t2 t3, h.get? a = some ⟨.type "tuple", d, .seq #[.int k.1 t1, .int k.2.1 t2, .int k.2.2 t3] n, sl⟩

theorem IsKey.typeIs {a : Addr} {k : Key} (h : IsKey s.heap a k) : s.TypeIs (.ref a) "tuple" := by
  obtain ⟨d, n, sl, t1, t2, t3, h⟩ := h
  exact ⟨_, h, rfl⟩

noncomputable def cmpB (op : CmpOp) (a b : Int) : Bool := match op with
  | .Lt => decide (a < b)
  | .LtE => decide (a ≤ b)
  | _ => false
noncomputable def keyCmp (op : CmpOp) (a b : Key) : Bool :=
  if a.1 = b.1 then (if a.2.1 = b.2.1 then (if a.2.2 = b.2.2 then (match op with | .LtE => true | _ => false) else cmpB op a.2.2 b.2.2) else cmpB op a.2.1 b.2.1) else cmpB op a.1 b.1
theorem keyCmp_lt (a b : Key) : keyCmp .Lt a b = keyLt a b := by
  unfold keyCmp keyLt cmpB
  by_cases h1 : a.1 = b.1
  · by_cases h2 : a.2.1 = b.2.1
    · by_cases h3 : a.2.2 = b.2.2
      · simp [h1, h2, h3]
      · simp [h1, h2, h3]
    · simp [h1, h2]
  · simp [h1]
theorem keyCmp_le (a b : Key) : keyCmp .LtE a b = !(keyLt b a) := by
  unfold keyCmp keyLt cmpB
  by_cases h1 : a.1 = b.1
  · by_cases h2 : a.2.1 = b.2.1
    · by_cases h3 : a.2.2 = b.2.2
      · simp [h1, h2, h3]
      · simp [h1, h2, h3]; rw [← decide_not]; simp
    · have : ¬ b.2.1 = a.2.1 := fun h => h2 h.symm
      simp [h1, h2, this]; rw [← decide_not]; simp
  · have : ¬ b.1 = a.1 := fun h => h1 h.symm
    simp [h1, this]; rw [← decide_not]; simp

theorem int_cmp {a b : Int} {t u : Tok} {op : CmpOp} (hop : op = .Lt ∨ op = .LtE) {Q : Value → Shared → Prop} (h : Q (.bool (cmpB op a b)) s) : wpAny (model prog w) A (richCompare op (.int a t) (.int b u)) Q E s := by
  rcases hop with rfl | rfl
  · exact lt_int h
  · exact le_int h


theorem tup_cmp {a b : Addr} {j k : Key} {op : CmpOp} {Q : Value → Shared → Prop} (hop : op = .Lt ∨ op = .LtE) (ha : IsKey s.heap a j) (hb : IsKey s.heap b k) (hu : A.units < cLine) (h : Q (.bool (keyCmp op j k)) s) :
    wpAny (model prog w) A (richCompare op (.ref a) (.ref b)) Q E s := by
  have ta := ha.typeIs
  have tb := hb.typeIs
  obtain ⟨d1, n1, sl1, t1, t2, t3, ha⟩ := ha
  obtain ⟨d2, n2, sl2, u1, u2, u3, hb⟩ := hb
  have key : ∀ (f : Builtin), (f = Builtin.«tuple.__lt__» ∧ op = .Lt ∨ f = Builtin.«tuple.__le__» ∧ op = .LtE) →
      wpAny (model prog w) A.in1 (f ⟨[.ref a, .ref b], []⟩) (fun fin s' => ∃ v, fin = .done (.ret v) ∧ v ≠ .notImplemented ∧ Q v s') E s := by
    intro f hf
    rcases hf with ⟨rfl, rfl⟩ | ⟨rfl, rfl⟩
    all_goals
      show wpAny _ _ (isInstance (.ref b) (.type "tuple") >>= _) _ _ s
      refine wpAny_bind (wpAny_isInstance tb isSubtype_tuple_tuple ?_)
      simp only [Bool.not_true, Bool.false_eq_true, if_false]
      refine wpAny_bind (wpAny_tupleItemsOf ha rfl ?_)
      refine wpAny_bind (wpAny_tupleItemsOf hb rfl ?_)
      dsimp only [List.zip_cons_cons, List.zip_nil_right]
      simp only [List.zip_cons_cons, List.zip_nil_right, List.forIn_cons, List.forIn_nil]
      unfold keyCmp at h
      by_cases h1 : j.1 = k.1
      · rw [if_pos h1] at h
        refine wpAny_bind (wpAny_bind (wpAny_bind (wpAny_eqBool_int ?_)))
        rw [show (j.1 == k.1) = true from by simp [h1]]
        simp only [Bool.not_true, Bool.false_eq_true, if_false]
        refine wpAny_pure ?_
        by_cases h2 : j.2.1 = k.2.1
        · rw [if_pos h2] at h
          refine wpAny_bind (wpAny_bind (wpAny_eqBool_int ?_))
          rw [show (j.2.1 == k.2.1) = true from by simp [h2]]
          simp only [Bool.not_true, Bool.false_eq_true, if_false]
          refine wpAny_pure ?_
          by_cases h3 : j.2.2 = k.2.2
          · rw [if_pos h3] at h
            refine wpAny_bind (wpAny_bind (wpAny_eqBool_int ?_))
            rw [show (j.2.2 == k.2.2) = true from by simp [h3]]
            simp only [Bool.not_true, Bool.false_eq_true, if_false]
            exact wpAny_pure (wpAny_pure (wpAny_pure ⟨_, rfl, (fun e => by cases e), h⟩))
          · rw [if_neg h3] at h
            refine wpAny_bind (wpAny_bind (wpAny_eqBool_int ?_))
            rw [show (j.2.2 == k.2.2) = false from by simp [h3]]
            simp only [Bool.not_false, if_true]
            refine wpAny_bind (wpAny_rule (wpAny_bind (int_cmp hop ?_)))
            repeat refine wpAny_pure ?_
            exact ⟨_, rfl, (fun e => by cases e), h⟩
        · rw [if_neg h2] at h
          refine wpAny_bind (wpAny_bind (wpAny_eqBool_int ?_))
          rw [show (j.2.1 == k.2.1) = false from by simp [h2]]
          simp only [Bool.not_false, if_true]
          refine wpAny_bind (wpAny_rule (wpAny_bind (int_cmp hop ?_)))
          repeat refine wpAny_pure ?_
          exact ⟨_, rfl, (fun e => by cases e), h⟩
      · rw [if_neg h1] at h
        refine wpAny_bind (wpAny_bind (wpAny_bind (wpAny_eqBool_int ?_)))
        rw [show (j.1 == k.1) = false from by simp [h1]]
        simp only [Bool.not_false, if_true]
        refine wpAny_bind (wpAny_rule (wpAny_bind (int_cmp hop ?_)))
        repeat refine wpAny_pure ?_
        exact ⟨_, rfl, (fun e => by cases e), h⟩
  rcases hop with rfl | rfl
  · exact wpAny_richCompare_same_room ta tb F.slot_tuple_lt (wpAny_call_entry F.slot_tuple_lt ta F.entry_tuple_lt (key _ (.inl ⟨rfl, rfl⟩)) (F.args_tuple_lt_2 _ _)) hu
  · exact wpAny_richCompare_same_room ta tb F.slot_tuple_le (wpAny_call_entry F.slot_tuple_le ta F.entry_tuple_le (key _ (.inr ⟨rfl, rfl⟩)) (F.args_tuple_le_2 _ _)) hu
end
end
section
section
variable {prog : Program} {w : World} {A : Around} {E : Value → Shared → Prop} {s : Shared} {h₀ : Heap} {L : Addr} {m : Str → Option Value} {env : Env} {news : List (Addr × Obj)}
/-- the loops, with the word and the wish of a turn as letters (so that the goals stay small) -/
theorem While_G {test : PySem.Expr} {body : List Stmt} {pos : Pos} {Q : Flow → Shared → Prop} (J : Nat → (Str → Option Value) → List (Addr × Obj) → Prop) {n₀ : Nat}
    (F : Fr h₀ L s.heap m) (N : News h₀ L s.heap news) (hJ : J n₀ m news)
    (turn : ∀ (J' : Nat → (Str → Option Value) → List (Addr × Obj) → Prop) (Q' : Flow → Shared → Prop), (∀ n m news, J n m news → J' n m news) → (∀ f s', Q f s' → Q' f s') → ∀ n m₁ news₁ h₁ tk₁, Fr h₀ L h₁ m₁ → News h₀ L h₁ news₁ → J n m₁ news₁ →
      wpAny (model prog w) A (isTrue test env (eval test env)) (fun b s₂ =>
        if b = true then wpAny (model prog w) A (execs body env) (WhileStep2 h₀ L s J' Q' n) E s₂ else Q' .next s₂) E { s with heap := h₁, toks := tk₁ })
    (hE : PassesOwn (model prog w) A env E := by passes_own) :
    wpAny (model prog w) A (exec (.While test body [] pos) env) Q E s :=
  While_inv2 J F N hJ (turn J Q (fun _ _ _ h => h) (fun _ _ h => h)) hE
end
noncomputable def Ex2 {α0 α1 : Type} (P : α0 → α1 → Prop) : Prop := ∀ C : Prop, (∀ a0 a1, P a0 a1 → C) → C
theorem Ex2.mk {α0 α1 : Type} {P : α0 → α1 → Prop} (a0 : α0) (a1 : α1) (h : P a0 a1) : Ex2 P := fun _ k => k a0 a1 h
noncomputable def Ex3 {α0 α1 α2 : Type} (P : α0 → α1 → α2 → Prop) : Prop := ∀ C : Prop, (∀ a0 a1 a2, P a0 a1 a2 → C) → C
theorem Ex3.mk {α0 α1 α2 : Type} {P : α0 → α1 → α2 → Prop} (a0 : α0) (a1 : α1) (a2 : α2) (h : P a0 a1 a2) : Ex3 P := fun _ k => k a0 a1 a2 h
noncomputable def Ex4 {α0 α1 α2 α3 : Type} (P : α0 → α1 → α2 → α3 → Prop) : Prop := ∀ C : Prop, (∀ a0 a1 a2 a3, P a0 a1 a2 a3 → C) → C
theorem Ex4.mk {α0 α1 α2 α3 : Type} {P : α0 → α1 → α2 → α3 → Prop} (a0 : α0) (a1 : α1) (a2 : α2) (a3 : α3) (h : P a0 a1 a2 a3) : Ex4 P := fun _ k => k a0 a1 a2 a3 h
noncomputable def Ex5 {α0 α1 α2 α3 α4 : Type} (P : α0 → α1 → α2 → α3 → α4 → Prop) : Prop := ∀ C : Prop, (∀ a0 a1 a2 a3 a4, P a0 a1 a2 a3 a4 → C) → C
theorem Ex5.mk {α0 α1 α2 α3 α4 : Type} {P : α0 → α1 → α2 → α3 → α4 → Prop} (a0 : α0) (a1 : α1) (a2 : α2) (a3 : α3) (a4 : α4) (h : P a0 a1 a2 a3 a4) : Ex5 P := fun _ k => k a0 a1 a2 a3 a4 h
noncomputable def Ex6 {α0 α1 α2 α3 α4 α5 : Type} (P : α0 → α1 → α2 → α3 → α4 → α5 → Prop) : Prop := ∀ C : Prop, (∀ a0 a1 a2 a3 a4 a5, P a0 a1 a2 a3 a4 a5 → C) → C
theorem Ex6.mk {α0 α1 α2 α3 α4 α5 : Type} {P : α0 → α1 → α2 → α3 → α4 → α5 → Prop} (a0 : α0) (a1 : α1) (a2 : α2) (a3 : α3) (a4 : α4) (a5 : α5) (h : P a0 a1 a2 a3 a4 a5) : Ex6 P := fun _ k => k a0 a1 a2 a3 a4 a5 h
noncomputable def Ex7 {α0 α1 α2 α3 α4 α5 α6 : Type} (P : α0 → α1 → α2 → α3 → α4 → α5 → α6 → Prop) : Prop := ∀ C : Prop, (∀ a0 a1 a2 a3 a4 a5 a6, P a0 a1 a2 a3 a4 a5 a6 → C) → C
theorem Ex7.mk {α0 α1 α2 α3 α4 α5 α6 : Type} {P : α0 → α1 → α2 → α3 → α4 → α5 → α6 → Prop} (a0 : α0) (a1 : α1) (a2 : α2) (a3 : α3) (a4 : α4) (a5 : α5) (a6 : α6) (h : P a0 a1 a2 a3 a4 a5 a6) : Ex7 P := fun _ k => k a0 a1 a2 a3 a4 a5 a6 h
noncomputable def Ex8 {α0 α1 α2 α3 α4 α5 α6 α7 : Type} (P : α0 → α1 → α2 → α3 → α4 → α5 → α6 → α7 → Prop) : Prop := ∀ C : Prop, (∀ a0 a1 a2 a3 a4 a5 a6 a7, P a0 a1 a2 a3 a4 a5 a6 a7 → C) → C
theorem Ex8.mk {α0 α1 α2 α3 α4 α5 α6 α7 : Type} {P : α0 → α1 → α2 → α3 → α4 → α5 → α6 → α7 → Prop} (a0 : α0) (a1 : α1) (a2 : α2) (a3 : α3) (a4 : α4) (a5 : α5) (a6 : α6) (a7 : α7) (h : P a0 a1 a2 a3 a4 a5 a6 a7) : Ex8 P := fun _ k => k a0 a1 a2 a3 a4 a5 a6 a7 h
noncomputable def Ex9 {α0 α1 α2 α3 α4 α5 α6 α7 α8 : Type} (P : α0 → α1 → α2 → α3 → α4 → α5 → α6 → α7 → α8 → Prop) : Prop := ∀ C : Prop, (∀ a0 a1 a2 a3 a4 a5 a6 a7 a8, P a0 a1 a2 a3 a4 a5 a6 a7 a8 → C) → C
theorem Ex9.mk {α0 α1 α2 α3 α4 α5 α6 α7 α8 : Type} {P : α0 → α1 → α2 → α3 → α4 → α5 → α6 → α7 → α8 → Prop} (a0 : α0) (a1 : α1) (a2 : α2) (a3 : α3) (a4 : α4) (a5 : α5) (a6 : α6) (a7 : α7) (a8 : α8) (h : P a0 a1 a2 a3 a4 a5 a6 a7 a8) : Ex9 P := fun _ k => k a0 a1 a2 a3 a4 a5 a6 a7 a8 h
noncomputable def Ex10 {α0 α1 α2 α3 α4 α5 α6 α7 α8 α9 : Type} (P : α0 → α1 → α2 → α3 → α4 → α5 → α6 → α7 → α8 → α9 → Prop) : Prop := ∀ C : Prop, (∀ a0 a1 a2 a3 a4 a5 a6 a7 a8 a9, P a0 a1 a2 a3 a4 a5 a6 a7 a8 a9 → C) → C
theorem Ex10.mk {α0 α1 α2 α3 α4 α5 α6 α7 α8 α9 : Type} {P : α0 → α1 → α2 → α3 → α4 → α5 → α6 → α7 → α8 → α9 → Prop} (a0 : α0) (a1 : α1) (a2 : α2) (a3 : α3) (a4 : α4) (a5 : α5) (a6 : α6) (a7 : α7) (a8 : α8) (a9 : α9) (h : P a0 a1 a2 a3 a4 a5 a6 a7 a8 a9) : Ex10 P := fun _ k => k a0 a1 a2 a3 a4 a5 a6 a7 a8 a9 h
noncomputable def Ex11 {α0 α1 α2 α3 α4 α5 α6 α7 α8 α9 α10 : Type} (P : α0 → α1 → α2 → α3 → α4 → α5 → α6 → α7 → α8 → α9 → α10 → Prop) : Prop := ∀ C : Prop, (∀ a0 a1 a2 a3 a4 a5 a6 a7 a8 a9 a10, P a0 a1 a2 a3 a4 a5 a6 a7 a8 a9 a10 → C) → C
theorem Ex11.mk {α0 α1 α2 α3 α4 α5 α6 α7 α8 α9 α10 : Type} {P : α0 → α1 → α2 → α3 → α4 → α5 → α6 → α7 → α8 → α9 → α10 → Prop} (a0 : α0) (a1 : α1) (a2 : α2) (a3 : α3) (a4 : α4) (a5 : α5) (a6 : α6) (a7 : α7) (a8 : α8) (a9 : α9) (a10 : α10) (h : P a0 a1 a2 a3 a4 a5 a6 a7 a8 a9 a10) : Ex11 P := fun _ k => k a0 a1 a2 a3 a4 a5 a6 a7 a8 a9 a10 h
noncomputable def Ex12 {α0 α1 α2 α3 α4 α5 α6 α7 α8 α9 α10 α11 : Type} (P : α0 → α1 → α2 → α3 → α4 → α5 → α6 → α7 → α8 → α9 → α10 → α11 → Prop) : Prop := ∀ C : Prop, (∀ a0 a1 a2 a3 a4 a5 a6 a7 a8 a9 a10 a11, P a0 a1 a2 a3 a4 a5 a6 a7 a8 a9 a10 a11 → C) → C
theorem Ex12.mk {α0 α1 α2 α3 α4 α5 α6 α7 α8 α9 α10 α11 : Type} {P : α0 → α1 → α2 → α3 → α4 → α5 → α6 → α7 → α8 → α9 → α10 → α11 → Prop} (a0 : α0) (a1 : α1) (a2 : α2) (a3 : α3) (a4 : α4) (a5 : α5) (a6 : α6) (a7 : α7) (a8 : α8) (a9 : α9) (a10 : α10) (a11 : α11) (h : P a0 a1 a2 a3 a4 a5 a6 a7 a8 a9 a10 a11) : Ex12 P := fun _ k => k a0 a1 a2 a3 a4 a5 a6 a7 a8 a9 a10 a11 h
theorem and_on2 {p0 p1 C : Prop} (h : p0 ∧ p1) (k : p0 → p1 → C) : C := k h.1 h.2
theorem and_on3 {p0 p1 p2 C : Prop} (h : p0 ∧ p1 ∧ p2) (k : p0 → p1 → p2 → C) : C := k h.1 h.2.1 h.2.2
theorem and_on4 {p0 p1 p2 p3 C : Prop} (h : p0 ∧ p1 ∧ p2 ∧ p3) (k : p0 → p1 → p2 → p3 → C) : C := k h.1 h.2.1 h.2.2.1 h.2.2.2
theorem and_on5 {p0 p1 p2 p3 p4 C : Prop} (h : p0 ∧ p1 ∧ p2 ∧ p3 ∧ p4) (k : p0 → p1 → p2 → p3 → p4 → C) : C := k h.1 h.2.1 h.2.2.1 h.2.2.2.1 h.2.2.2.2
theorem and_on6 {p0 p1 p2 p3 p4 p5 C : Prop} (h : p0 ∧ p1 ∧ p2 ∧ p3 ∧ p4 ∧ p5) (k : p0 → p1 → p2 → p3 → p4 → p5 → C) : C := k h.1 h.2.1 h.2.2.1 h.2.2.2.1 h.2.2.2.2.1 h.2.2.2.2.2
theorem and_on7 {p0 p1 p2 p3 p4 p5 p6 C : Prop} (h : p0 ∧ p1 ∧ p2 ∧ p3 ∧ p4 ∧ p5 ∧ p6) (k : p0 → p1 → p2 → p3 → p4 → p5 → p6 → C) : C := k h.1 h.2.1 h.2.2.1 h.2.2.2.1 h.2.2.2.2.1 h.2.2.2.2.2.1 h.2.2.2.2.2.2
theorem and_on8 {p0 p1 p2 p3 p4 p5 p6 p7 C : Prop} (h : p0 ∧ p1 ∧ p2 ∧ p3 ∧ p4 ∧ p5 ∧ p6 ∧ p7) (k : p0 → p1 → p2 → p3 → p4 → p5 → p6 → p7 → C) : C := k h.1 h.2.1 h.2.2.1 h.2.2.2.1 h.2.2.2.2.1 h.2.2.2.2.2.1 h.2.2.2.2.2.2.1 h.2.2.2.2.2.2.2
theorem and_on9 {p0 p1 p2 p3 p4 p5 p6 p7 p8 C : Prop} (h : p0 ∧ p1 ∧ p2 ∧ p3 ∧ p4 ∧ p5 ∧ p6 ∧ p7 ∧ p8) (k : p0 → p1 → p2 → p3 → p4 → p5 → p6 → p7 → p8 → C) : C := k h.1 h.2.1 h.2.2.1 h.2.2.2.1 h.2.2.2.2.1 h.2.2.2.2.2.1 h.2.2.2.2.2.2.1 h.2.2.2.2.2.2.2.1 h.2.2.2.2.2.2.2.2
theorem and_on10 {p0 p1 p2 p3 p4 p5 p6 p7 p8 p9 C : Prop} (h : p0 ∧ p1 ∧ p2 ∧ p3 ∧ p4 ∧ p5 ∧ p6 ∧ p7 ∧ p8 ∧ p9) (k : p0 → p1 → p2 → p3 → p4 → p5 → p6 → p7 → p8 → p9 → C) : C := k h.1 h.2.1 h.2.2.1 h.2.2.2.1 h.2.2.2.2.1 h.2.2.2.2.2.1 h.2.2.2.2.2.2.1 h.2.2.2.2.2.2.2.1 h.2.2.2.2.2.2.2.2.1 h.2.2.2.2.2.2.2.2.2
theorem and_on11 {p0 p1 p2 p3 p4 p5 p6 p7 p8 p9 p10 C : Prop} (h : p0 ∧ p1 ∧ p2 ∧ p3 ∧ p4 ∧ p5 ∧ p6 ∧ p7 ∧ p8 ∧ p9 ∧ p10) (k : p0 → p1 → p2 → p3 → p4 → p5 → p6 → p7 → p8 → p9 → p10 → C) : C := k h.1 h.2.1 h.2.2.1 h.2.2.2.1 h.2.2.2.2.1 h.2.2.2.2.2.1 h.2.2.2.2.2.2.1 h.2.2.2.2.2.2.2.1 h.2.2.2.2.2.2.2.2.1 h.2.2.2.2.2.2.2.2.2.1 h.2.2.2.2.2.2.2.2.2.2
theorem and_on12 {p0 p1 p2 p3 p4 p5 p6 p7 p8 p9 p10 p11 C : Prop} (h : p0 ∧ p1 ∧ p2 ∧ p3 ∧ p4 ∧ p5 ∧ p6 ∧ p7 ∧ p8 ∧ p9 ∧ p10 ∧ p11) (k : p0 → p1 → p2 → p3 → p4 → p5 → p6 → p7 → p8 → p9 → p10 → p11 → C) : C := k h.1 h.2.1 h.2.2.1 h.2.2.2.1 h.2.2.2.2.1 h.2.2.2.2.2.1 h.2.2.2.2.2.2.1 h.2.2.2.2.2.2.2.1 h.2.2.2.2.2.2.2.2.1 h.2.2.2.2.2.2.2.2.2.1 h.2.2.2.2.2.2.2.2.2.2.1 h.2.2.2.2.2.2.2.2.2.2.2
theorem and_on13 {p0 p1 p2 p3 p4 p5 p6 p7 p8 p9 p10 p11 p12 C : Prop} (h : p0 ∧ p1 ∧ p2 ∧ p3 ∧ p4 ∧ p5 ∧ p6 ∧ p7 ∧ p8 ∧ p9 ∧ p10 ∧ p11 ∧ p12) (k : p0 → p1 → p2 → p3 → p4 → p5 → p6 → p7 → p8 → p9 → p10 → p11 → p12 → C) : C := k h.1 h.2.1 h.2.2.1 h.2.2.2.1 h.2.2.2.2.1 h.2.2.2.2.2.1 h.2.2.2.2.2.2.1 h.2.2.2.2.2.2.2.1 h.2.2.2.2.2.2.2.2.1 h.2.2.2.2.2.2.2.2.2.1 h.2.2.2.2.2.2.2.2.2.2.1 h.2.2.2.2.2.2.2.2.2.2.2.1 h.2.2.2.2.2.2.2.2.2.2.2.2
theorem and_on14 {p0 p1 p2 p3 p4 p5 p6 p7 p8 p9 p10 p11 p12 p13 C : Prop} (h : p0 ∧ p1 ∧ p2 ∧ p3 ∧ p4 ∧ p5 ∧ p6 ∧ p7 ∧ p8 ∧ p9 ∧ p10 ∧ p11 ∧ p12 ∧ p13) (k : p0 → p1 → p2 → p3 → p4 → p5 → p6 → p7 → p8 → p9 → p10 → p11 → p12 → p13 → C) : C := k h.1 h.2.1 h.2.2.1 h.2.2.2.1 h.2.2.2.2.1 h.2.2.2.2.2.1 h.2.2.2.2.2.2.1 h.2.2.2.2.2.2.2.1 h.2.2.2.2.2.2.2.2.1 h.2.2.2.2.2.2.2.2.2.1 h.2.2.2.2.2.2.2.2.2.2.1 h.2.2.2.2.2.2.2.2.2.2.2.1 h.2.2.2.2.2.2.2.2.2.2.2.2.1 h.2.2.2.2.2.2.2.2.2.2.2.2.2
theorem and_on15 {p0 p1 p2 p3 p4 p5 p6 p7 p8 p9 p10 p11 p12 p13 p14 C : Prop} (h : p0 ∧ p1 ∧ p2 ∧ p3 ∧ p4 ∧ p5 ∧ p6 ∧ p7 ∧ p8 ∧ p9 ∧ p10 ∧ p11 ∧ p12 ∧ p13 ∧ p14) (k : p0 → p1 → p2 → p3 → p4 → p5 → p6 → p7 → p8 → p9 → p10 → p11 → p12 → p13 → p14 → C) : C := k h.1 h.2.1 h.2.2.1 h.2.2.2.1 h.2.2.2.2.1 h.2.2.2.2.2.1 h.2.2.2.2.2.2.1 h.2.2.2.2.2.2.2.1 h.2.2.2.2.2.2.2.2.1 h.2.2.2.2.2.2.2.2.2.1 h.2.2.2.2.2.2.2.2.2.2.1 h.2.2.2.2.2.2.2.2.2.2.2.1 h.2.2.2.2.2.2.2.2.2.2.2.2.1 h.2.2.2.2.2.2.2.2.2.2.2.2.2.1 h.2.2.2.2.2.2.2.2.2.2.2.2.2.2
theorem and_on16 {p0 p1 p2 p3 p4 p5 p6 p7 p8 p9 p10 p11 p12 p13 p14 p15 C : Prop} (h : p0 ∧ p1 ∧ p2 ∧ p3 ∧ p4 ∧ p5 ∧ p6 ∧ p7 ∧ p8 ∧ p9 ∧ p10 ∧ p11 ∧ p12 ∧ p13 ∧ p14 ∧ p15) (k : p0 → p1 → p2 → p3 → p4 → p5 → p6 → p7 → p8 → p9 → p10 → p11 → p12 → p13 → p14 → p15 → C) : C := k h.1 h.2.1 h.2.2.1 h.2.2.2.1 h.2.2.2.2.1 h.2.2.2.2.2.1 h.2.2.2.2.2.2.1 h.2.2.2.2.2.2.2.1 h.2.2.2.2.2.2.2.2.1 h.2.2.2.2.2.2.2.2.2.1 h.2.2.2.2.2.2.2.2.2.2.1 h.2.2.2.2.2.2.2.2.2.2.2.1 h.2.2.2.2.2.2.2.2.2.2.2.2.1 h.2.2.2.2.2.2.2.2.2.2.2.2.2.1 h.2.2.2.2.2.2.2.2.2.2.2.2.2.2.1 h.2.2.2.2.2.2.2.2.2.2.2.2.2.2.2
/-- a wish as a letter -/
theorem wp_G {M : Model} {A : Around} {α : Type} {t : Sem α} {Q : α → Shared → Prop} {E : Value → Shared → Prop} {s : Shared} (h : ∀ Q' : α → Shared → Prop, (∀ x s', Q x s' → Q' x s') → wpAny M A t Q' E s) : wpAny M A t Q E s := h Q (fun _ _ h => h)
theorem wp_cutG {M : Model} {A : Around} {α : Type} {t : Sem α} {Q : α → Shared → Prop} {E : Value → Shared → Prop} {s : Shared} (W : α → Shared → Prop) (h1 : ∀ W' : α → Shared → Prop, (∀ x s', W x s' → W' x s') → wpAny M A t W' E s) (h2 : ∀ x s', W x s' → Q x s') : wpAny M A t Q E s :=
  wpAny_mono (h1 W fun _ _ h => h) h2 fun _ _ e => e
theorem boolOn {b : Bool} {C : Prop} (h1 : b = true → C) (h0 : b = false → C) : C := by cases b with | true => exact h1 rfl | false => exact h0 rfl

section
variable {α : Type} {a b : α} {l l' r r' : List α}
theorem sub_nil : ∀ p, p ∈ ([] : List α) → p ∈ l := fun _ h => nomatch h
theorem sub_self : ∀ p, p ∈ l → p ∈ l := fun _ h => h
theorem sub_cons (h : a ∈ l) (t : ∀ p, p ∈ r → p ∈ l) : ∀ p, p ∈ a :: r → p ∈ l := fun p hp => (List.mem_cons.mp hp).elim (fun e => e ▸ h) (t p)
theorem sub_app (h : ∀ p, p ∈ r → p ∈ l) (t : ∀ p, p ∈ r' → p ∈ l) : ∀ p, p ∈ r ++ r' → p ∈ l := fun p hp => (List.mem_append.mp hp).elim (h p) (t p)
theorem sub_tl (h : ∀ p, p ∈ r → p ∈ l) : ∀ p, p ∈ r → p ∈ b :: l := fun p hp => .tail _ (h p hp)
theorem sub_apl (h : ∀ p, p ∈ r → p ∈ l) : ∀ p, p ∈ r → p ∈ l ++ l' := fun p hp => List.mem_append_left _ (h p hp)
theorem sub_apr (h : ∀ p, p ∈ r → p ∈ l') : ∀ p, p ∈ r → p ∈ l ++ l' := fun p hp => List.mem_append_right _ (h p hp)
end
/-- a goal as a letter -/
theorem goal_G {P : Prop} (h : ∀ G : Prop, (P → G) → G) : P := h P id
theorem ifT {c : Prop} [Decidable c] {a b : Prop} (h : c) (k : a) : if c then a else b := by rw [if_pos h]; exact k
theorem ifF {c : Prop} [Decidable c] {a b : Prop} (h : ¬ c) (k : b) : if c then a else b := by rw [if_neg h]; exact k
theorem iteT {b : Bool} {P Q : Prop} (h : b = true) (k : P) : if b = true then P else Q := by rw [if_pos h]; exact k
section
variable {s : Shared} {h₀ : Heap} {L : Addr} {m : Str → Option Value}
theorem ws_next {J : Nat → (Str → Option Value) → List (Addr × Obj) → Prop} {Q : Flow → Shared → Prop} {n n' : Nat} {h' : Heap} {tk : Nat} {m₂ : Str → Option Value} {news₂ : List (Addr × Obj)} (F : Fr h₀ L h' m₂) (N : News h₀ L h' news₂) (hn : n' < n) (hJ : J n' m₂ news₂) :
    WhileStep2 h₀ L s J Q n .next { s with heap := h', toks := tk } := ⟨h', tk, m₂, news₂, n', rfl, F, N, hn, hJ⟩
theorem ws_cont {J : Nat → (Str → Option Value) → List (Addr × Obj) → Prop} {Q : Flow → Shared → Prop} {n n' : Nat} {h' : Heap} {tk : Nat} {m₂ : Str → Option Value} {news₂ : List (Addr × Obj)} (F : Fr h₀ L h' m₂) (N : News h₀ L h' news₂) (hn : n' < n) (hJ : J n' m₂ news₂) :
    WhileStep2 h₀ L s J Q n .cont { s with heap := h', toks := tk } := ⟨h', tk, m₂, news₂, n', rfl, F, N, hn, hJ⟩
end
end
local macro_rules | `(tactic| walk) => `(tactic| repeat' ((fail_if_success with_reducible first | refine stW ?_ | refine stF ?_ | refine stL ?_ | refine stC ?_); walk1; try dsimp only))
section
noncomputable def keyObj (o : Obj) (k : Key) : Prop := ∃ d n sl t1 t2 t3, o = ⟨.type "tuple", d, .seq #[.int k.1 t1, .int k.2.1 t2, .int k.2.2 t3] n, sl⟩
noncomputable def KeyIn (l : List (Addr × Obj)) (adr : Key → Addr) (k : Key) : Prop := ∃ o, (adr k, o) ∈ l ∧ keyObj o k
noncomputable abbrev kvs (adr : Key → Addr) (ks : List Key) : List Value := ks.map fun k => Value.ref (adr k)
theorem KeyIn.isKey {h₀ h : Heap} {L : Addr} {l : List (Addr × Obj)} {adr : Key → Addr} {k : Key} (N : News h₀ L h l) (hk : KeyIn l adr k) : IsKey h (adr k) k := by
  refine goal_G fun GG hGG => ?_
  obtain ⟨o, hm, d, n, sl, t1, t2, t3, rfl⟩ := hk
  refine hGG ?_
  clear hGG GG
  exact ⟨d, n, sl, t1, t2, t3, (N _ hm).1⟩
theorem KeyIn.tail {p : Addr × Obj} {l : List (Addr × Obj)} {adr : Key → Addr} {k : Key} (hk : KeyIn l adr k) : KeyIn (p :: l) adr k := by
  refine goal_G fun GG hGG => ?_
  obtain ⟨o, hm, h⟩ := hk
  refine hGG ?_
  clear hGG GG
  exact ⟨o, .tail _ hm, h⟩


@[irreducible] noncomputable def sdown (ks : List Key) (x : Key) (sp : Nat) (pos : Nat) : List Key :=
  WellFounded.fix (C := fun _ => List Key → List Key) Nat.lt_wfRel.wf (fun pos ih ks =>
    if h : sp < pos then
      if keyLt x (ks.getD ((pos - 1) / 2) (0, 0, 0)) then ih ((pos - 1) / 2) (Nat.lt_of_le_of_lt (Nat.div_le_self _ _) (Nat.sub_lt (Nat.zero_lt_of_lt h) Nat.one_pos)) (ks.set pos (ks.getD ((pos - 1) / 2) (0, 0, 0)))
      else ks.set pos x
    else ks.set pos x) pos ks
theorem sdown_eq (ks : List Key) (x : Key) (sp : Nat) (pos : Nat) : sdown ks x sp pos =
    if _h : sp < pos then
      if keyLt x (ks.getD ((pos - 1) / 2) (0, 0, 0)) then sdown (ks.set pos (ks.getD ((pos - 1) / 2) (0, 0, 0))) x sp ((pos - 1) / 2)
      else ks.set pos x
    else ks.set pos x := by
  unfold sdown
  rw [WellFounded.fix_eq]


noncomputable def AllIs (m : Str → Option Value) : List (Str × Value) → Prop
  | [] => True
  | p :: r => m p.1 = some p.2 ∧ AllIs m r
theorem AllIs.mem {m : Str → Option Value} : ∀ {ps : List (Str × Value)}, AllIs m ps → ∀ p ∈ ps, m p.1 = some p.2
  | [], _, _, hp => nomatch hp
  | _ :: _, h, _, .head _ => h.1
  | _ :: _, h, _, .tail _ hp => AllIs.mem h.2 _ hp
theorem Fr.some {h₀ h : Heap} {L : Addr} {m : Str → Option Value} (F : Fr h₀ L h m) (ps : List (Str × Value)) (hp : AllIs m ps) : ∃ u, Fr h₀ L h (kstB u ps) := ⟨m, Fr.form ps F hp.mem⟩

theorem getD_kvs (adr : Key → Addr) (ks : List Key) (i : Nat) (h : i < ks.length) : (kvs adr ks).getD i .none = .ref (adr (ks.getD i (0, 0, 0))) := by
  simp [kvs, h]
theorem set_kvs (adr : Key → Addr) (ks : List Key) (i : Nat) (k : Key) : (kvs adr ks).set i (.ref (adr k)) = kvs adr (ks.set i k) := by
  simp [kvs, List.map_set]
theorem getD_mem (ks : List Key) (i : Nat) (h : i < ks.length) : ks.getD i (0, 0, 0) ∈ ks := by
  simp [h]

section
variable {prog : Program} {w : World} {A : Around} {E : Value → Shared → Prop} {s : Shared}
/-- an item of a list of keys; a store into it -/
theorem item_keys {value slice : PySem.Expr} {l : Addr} {adr : Key → Addr} {ks : List Key} {i : Int} {k : Nat} {u : Tok} {Q : Value → Shared → Prop}
    (hi : i = (k : Int)) (hl : s.heap.IsList l (kvs adr ks).toArray) (hk : k < ks.length) (h2 : ks.length < 100) (h : Q (.ref (adr (ks.getD k (0, 0, 0)))) s)
    (hs : subscripted slice false (.ref l) (.int i u) = operate [.ref l, .int i u] (getItem (.ref l) (.int i u)) := by with_unfolding_all rfl) :
    wpAny (model prog w) A (subscriptTail value slice (.ref l) (.int i u)) Q E s := by
  subst hi
  have e : (kvs adr ks).length = ks.length := List.length_map ..
  refine item_gen hl (Int.natCast_nonneg k) (by rw [e]; exact Int.ofNat_lt.mpr hk) (by rw [e]; omega) ?_ hs
  rw [show ((k : Int)).toNat = k from rfl, getD_kvs adr ks k hk]; exact h
theorem store_keys {h₀ : Heap} {L D : Addr} {m : Str → Option Value} {rest : List (Addr × Obj)} {adr : Key → Addr} {ks : List Key} {n : Nat} {i : Int} {k : Nat} {t : Tok} {x : Key}
    {Q : Unit → Shared → Prop} (hi : i = (k : Int)) (F : Fr h₀ L s.heap m) (N : News h₀ L s.heap ((D, listOf (kvs adr ks).toArray n) :: rest)) (hne : ∀ p ∈ rest, p.1 ≠ D) (hk : k < ks.length) (h2 : ks.length < 100)
    (h : ∀ h', Fr h₀ L h' m → News h₀ L h' ((D, listOf (kvs adr (ks.set k x)).toArray n) :: rest) → Q () { s with heap := h' }) :
    wpAny (model prog w) A (setItem (.ref D) (.int i t) (.ref (adr x))) Q E s := by
  subst hi
  have e : (kvs adr ks).length = ks.length := List.length_map ..
  refine store_gen F N hne (Int.natCast_nonneg k) (by rw [e]; exact Int.ofNat_lt.mpr hk) (by rw [e]; omega) ?_
  intro h' F' N'
  rw [show ((k : Int)).toNat = k from rfl, set_kvs] at N'
  exact h h' F' N'
end
theorem siftdown_spec {w : World} {gd : Option (List Code)} {cn : Str} {cs : Scope} {a : Addr} {ccd : Value} {cl : List (Str × Addr)} {outer : List Env} {A₀ : Around} {base h₀ : Heap} {L : Addr} {m : Str → Option Value} {rest : List (Addr × Obj)} {s : Shared} {Q E : Value → Shared → Prop} {p : Program} {loose : List Str} {mean : ExcName → Option Value} {mg mb : Str → Option Value} {ha : Addr} {adr : Key → Addr} {ks : List Key} {n : Nat} {sp pos : Nat} {t1 t2 : Tok}
    (B : Below A₀ base outer h₀) (F : Fr h₀ L s.heap m) (X₀ : (Mine.hd.heap_1 w.params).In h₀) (T : Top p loose mean mg mb h₀) (hk : cs.kind = .function) (N : News h₀ L s.heap ((ha, listOf (kvs adr ks).toArray n) :: rest))
    (hne : ∀ p ∈ rest, p.1 ≠ ha) (hK : ∀ k ∈ ks, KeyIn rest adr k)
    (h1 : pos < ks.length) (h2 : ks.length < 100)
    (h : ∀ h' tk', Fr h₀ L h' m → News h₀ L h' ((ha, listOf (kvs adr (sdown ks (ks.getD pos (0, 0, 0)) sp pos)).toArray n) :: rest) → Q .none { s with heap := h', toks := tk' }) :
    wpAny (model PySem.Challenge.rw_pg0112_01.row.prog w) (Ar 900 5000 (envX cn cs L a ccd cl :: outer) gd) (call (.ref 42) [.ref ha, .int sp t1, .int pos t2]) Q E s := by
  revert X₀; k_fill; intro X₀
  refine wpAny_call ?_
  k_dflt ktr_enter
  rename_i g' L' h' FG F' N' B' X' T'
  first | refine Exists.elim (Fr.some F' [("heap", .ref ha), ("startpos", .int sp t1), ("pos", .int pos t2)] ⟨rfl, rfl, rfl, trivial⟩) fun u F1 => ?_ | refine and_on2 (Fr.some F' [("heap", .ref ha), ("startpos", .int sp t1), ("pos", .int pos t2)] ⟨rfl, rfl, rfl, trivial⟩) fun u F1 => ?_
  clear F'
  generalize hx : ks.getD pos (0, 0, 0) = x at h
  have hxm : x ∈ ks := hx ▸ getD_mem ks pos h1
  walk
  refine item_keys rfl (N'.isList (.head _)) h1 h2 ?_
  rw [hx]
  walk
  rename_i hE F2 N2
  refine While_G (fun n₀ m₁ news₁ => Ex2 fun (ks' : List Key) (t : Tok) => news₁ = ((ha, listOf (kvs adr ks').toArray n) :: rest) ∧ AllIs m₁ [("heap", .ref ha), ("startpos", .int sp t1), ("pos", .int n₀ t), ("newitem", .ref (adr x))] ∧
    (∀ k ∈ ks', k ∈ ks) ∧ ks'.length = ks.length ∧ n₀ < ks.length ∧ sdown ks' x sp n₀ = sdown ks x sp pos) (n₀ := pos) F2 N2 (Ex2.mk ks t2 ⟨rfl, ⟨rfl, rfl, rfl, rfl, trivial⟩, fun _ h => h, rfl, h1, rfl⟩) ?_
  clear F2 N2
  intro J1 Q1 hJ1 hQ1 n₀ m₁ news₁ h₁ tk₁ F1 N1 hJJ
  refine hJJ _ fun ks' t hAA => ?_
  refine and_on6 hAA fun hE0 hm hsub hlen hn hsd => ?_
  clear hAA hJJ
  refine goal_G fun GG hGG => ?_
  subst hE0
  refine hGG ?_
  clear hGG GG
  first | refine Exists.elim (Fr.some F1 _ hm) fun u' F1 => ?_ | refine and_on2 (Fr.some F1 _ hm) fun u' F1 => ?_
  clear hm
  walk
  · rename_i hlt _ F2 N2
    have hlt' : sp < n₀ := by omega
    have e : ((n₀ : Int) - 1).fdiv (2 ^ Int.toNat 1) = (((n₀ - 1) / 2 : Nat) : Int) := by
      rw [Int.fdiv_eq_ediv_of_nonneg _ (by decide)]
      show ((n₀ : Int) - 1) / 2 = _
      omega
    simp only [e] at F2 ⊢
    generalize hj : (n₀ - 1) / 2 = j at F2 ⊢
    have hjn : j < n₀ := by omega
    have hjl : j < ks'.length := by omega
    have h2' : ks'.length < 100 := by rw [hlen]; exact h2
    have hn' : n₀ < ks'.length := by rw [hlen]; exact hn
    refine item_keys rfl (N2.isList (.head _)) hjl h2' ?_
    walk
    have ky : KeyIn rest adr (ks'.getD j (0, 0, 0)) := hK _ (hsub _ (getD_mem ks' j hjl))
    rename News g' L' _ _ => N3
    refine cmp_ofLt (tup_cmp (.inl rfl) (KeyIn.isKey N3 (hK _ hxm).tail) (KeyIn.isKey N3 ky.tail) (Nat.le_of_ble_eq_true rfl) ?_)
    rw [keyCmp_lt]
    walk
    · rename_i hc
      rename Fr g' L' _ _ => F4
      refine store_keys rfl F4 N3 hne hn' h2' ?_
      intro h5 F5 N5
      clear F4 N3
      walk
      rename Fr g' L' _ _ => F6
      rename News g' L' _ _ => N6
      first | refine ws_next (n' := j) (F6) (N6) (hjn) (hJ1 _ _ _ (Ex2.mk (ks'.set n₀ (ks'.getD j (0, 0, 0))) _ ⟨rfl, ⟨rfl, rfl, rfl, rfl, trivial⟩, ?_, by simpa using hlen, by omega, ?_⟩)) | refine ws_cont (n' := j) (F6) (N6) (hjn) (hJ1 _ _ _ (Ex2.mk (ks'.set n₀ (ks'.getD j (0, 0, 0))) _ ⟨rfl, ⟨rfl, rfl, rfl, rfl, trivial⟩, ?_, by simpa using hlen, by omega, ?_⟩))
      · intro k hk
        rcases List.mem_or_eq_of_mem_set hk with hk | rfl
        · exact hsub _ hk
        · exact hsub _ (getD_mem ks' j hjl)
      · rw [← hsd, sdown_eq ks' x sp n₀, dif_pos hlt', hj, if_pos hc]
    · rename_i hc
      dsimp only [WhileStep2]
      refine hQ1 _ _ ?_
      rename Fr g' L' _ _ => F4
      walk
      refine store_keys rfl F4 N3 hne hn' h2' ?_
      intro h5 F5 N5
      have e2 : ks'.set n₀ x = sdown ks x sp pos := by
        rw [← hsd, sdown_eq ks' x sp n₀, dif_pos hlt', hj, hc]; simp
      rw [e2] at N5
      clear F4 N3
      walk
      exact h _ _ (by assumption) (by assumption)
  · rename_i hc
    have hc' : ¬ sp < n₀ := by omega
    refine hQ1 _ _ ?_
    walk
    refine store_keys rfl F1 N1 hne (by rw [hlen]; exact hn) (by rw [hlen]; exact h2) ?_
    intro h5 F5 N5
    have e2 : ks'.set n₀ x = sdown ks x sp pos := by
      rw [← hsd, sdown_eq ks' x sp n₀, dif_neg hc']
    rw [e2] at N5
    clear F1 N1
    walk
    exact h _ _ (by assumption) (by assumption)
end
section
/-- the way down to a leaf: the smaller child goes up -/
theorem supGo_lt {ks : List Key} {pos j : Nat} (x : Key) (hj : pos < j) (h : 2 * pos + 1 < ks.length) : (ks.set pos x).length - j < ks.length - pos := by
  rw [List.length_set]; omega
@[irreducible] noncomputable def supGo (ks : List Key) (pos : Nat) : List Key × Nat :=
  WellFounded.fix (C := fun _ => List Key × Nat) (measure fun p : List Key × Nat => p.1.length - p.2).wf (fun p ih =>
    if h : 2 * p.2 + 1 < p.1.length then
      if 2 * p.2 + 2 < p.1.length ∧ keyLt (p.1.getD (2 * p.2 + 1) (0, 0, 0)) (p.1.getD (2 * p.2 + 2) (0, 0, 0)) = false then
        ih (p.1.set p.2 (p.1.getD (2 * p.2 + 2) (0, 0, 0)), 2 * p.2 + 2) (supGo_lt _ (by omega) h)
      else ih (p.1.set p.2 (p.1.getD (2 * p.2 + 1) (0, 0, 0)), 2 * p.2 + 1) (supGo_lt _ (by omega) h)
    else p) (ks, pos)
theorem supGo_eq (ks : List Key) (pos : Nat) : supGo ks pos =
    if _h : 2 * pos + 1 < ks.length then
      if 2 * pos + 2 < ks.length ∧ keyLt (ks.getD (2 * pos + 1) (0, 0, 0)) (ks.getD (2 * pos + 2) (0, 0, 0)) = false then
        supGo (ks.set pos (ks.getD (2 * pos + 2) (0, 0, 0))) (2 * pos + 2)
      else supGo (ks.set pos (ks.getD (2 * pos + 1) (0, 0, 0))) (2 * pos + 1)
    else (ks, pos) := by
  unfold supGo
  exact WellFounded.fix_eq _ _ _
noncomputable def sup (ks : List Key) (pos : Nat) : List Key :=
  let r := supGo ks pos
  sdown (r.1.set r.2 (ks.getD pos (0, 0, 0))) (ks.getD pos (0, 0, 0)) pos r.2

theorem siftup_spec {w : World} {gd : Option (List Code)} {cn : Str} {cs : Scope} {a : Addr} {ccd : Value} {cl : List (Str × Addr)} {outer : List Env} {A₀ : Around} {base h₀ : Heap} {L : Addr} {m : Str → Option Value} {rest : List (Addr × Obj)} {s : Shared} {Q E : Value → Shared → Prop} {p : Program} {loose : List Str} {mean : ExcName → Option Value} {mg mb : Str → Option Value} {ha : Addr} {adr : Key → Addr} {ks : List Key} {n : Nat} {pos : Nat} {t2 : Tok}
    (B : Below A₀ base outer h₀) (F : Fr h₀ L s.heap m) (X₀ : (Mine.hd.heap_1 w.params).In h₀) (T : Top p loose mean mg mb h₀) (hk : cs.kind = .function) (N : News h₀ L s.heap ((ha, listOf (kvs adr ks).toArray n) :: rest))
    (hne : ∀ p ∈ rest, p.1 ≠ ha) (hK : ∀ k ∈ ks, KeyIn rest adr k)
    (h1 : pos < ks.length) (h2 : ks.length < 100)
    (h : ∀ h' tk', Fr h₀ L h' m → News h₀ L h' ((ha, listOf (kvs adr (sup ks pos)).toArray n) :: rest) → Q .none { s with heap := h', toks := tk' }) :
    wpAny (model PySem.Challenge.rw_pg0112_01.row.prog w) (Ar 880 4900 (envX cn cs L a ccd cl :: outer) gd) (call (.ref 49) [.ref ha, .int pos t2]) Q E s := by
  revert X₀; k_fill; intro X₀
  refine wpAny_call ?_
  k_dflt ktr_enter
  rename_i g' L' h' FG F' N' B' X' T'
  first | refine Exists.elim (Fr.some F' [("heap", .ref ha), ("pos", .int pos t2)] ⟨rfl, rfl, trivial⟩) fun u F1 => ?_ | refine and_on2 (Fr.some F' [("heap", .ref ha), ("pos", .int pos t2)] ⟨rfl, rfl, trivial⟩) fun u F1 => ?_
  clear F'
  generalize hx : ks.getD pos (0, 0, 0) = x at h
  have hxm : x ∈ ks := hx ▸ getD_mem ks pos h1
  walk
  refine len_list (N'.isList (.head _)) (by simp; omega) ?_
  rw [show ((kvs adr ks).toArray.size : Int) = (ks.length : Int) from by simp]
  walk
  rename News g' L' _ _ => N4
  refine item_keys rfl (N4.isList (.head _)) h1 h2 ?_
  rw [hx]
  walk
  rename News g' L' _ _ => N5
  rename Fr g' L' _ _ => F5
  refine While_G (fun n₀ m₁ news₁ => Ex6 fun (ks' : List Key) (q : Nat) (t ta tb tc : Tok) => news₁ = ((ha, listOf (kvs adr ks').toArray n) :: rest) ∧ AllIs m₁ [("heap", .ref ha), ("endpos", .int ks.length ta), ("startpos", .int pos tb), ("pos", .int q t), ("newitem", .ref (adr x)), ("childpos", .int (2 * q + 1) tc)] ∧
    n₀ = ks.length - q ∧ (∀ k ∈ ks', k ∈ ks) ∧ ks'.length = ks.length ∧ q < ks.length ∧ supGo ks' q = supGo ks pos) (n₀ := ks.length - pos) F5 N5 (Ex6.mk ks pos _ _ _ _ ⟨rfl, ⟨rfl, rfl, rfl, rfl, rfl, rfl, trivial⟩, rfl, fun _ h => h, rfl, h1, rfl⟩) ?_
  clear F5 N5
  intro J1 Q1 hJ1 hQ1 n₀ m₁ news₁ h₁ tk₁ F1 N1 hJJ
  refine hJJ _ fun ks' q t ta tb tc hAA => ?_
  refine and_on7 hAA fun hE0 hm hE2 hsub hlen hn hsd => ?_
  clear hAA hJJ
  refine goal_G fun GG hGG => ?_
  subst hE0
  subst hE2
  refine hGG ?_
  clear hGG GG
  have h2' : ks'.length < 100 := by rw [hlen]; exact h2
  have hn' : q < ks'.length := by rw [hlen]; exact hn
  first | refine Exists.elim (Fr.some F1 _ hm) fun u' F1 => ?_ | refine and_on2 (Fr.some F1 _ hm) fun u' F1 => ?_
  clear hm
  walk
  · rename_i hA _ _ _ hR
    rename News g' L' _ _ => N5
    have k1 : KeyIn rest adr (ks'.getD (2 * q + 1) (0, 0, 0)) := hK _ (hsub _ (getD_mem ks' _ (by omega)))
    have k2 : KeyIn rest adr (ks'.getD (2 * q + 2) (0, 0, 0)) := hK _ (hsub _ (getD_mem ks' _ (by omega)))
    refine item_keys (k := 2 * q + 1) rfl (N5.isList (.head _)) (by omega) h2' ?_
    walk
    refine item_keys (k := 2 * q + 2) rfl (N5.isList (.head _)) (by omega) h2' ?_
    refine cmp_ofLt (tup_cmp (.inl rfl) (KeyIn.isKey N5 k1.tail) (KeyIn.isKey N5 k2.tail) (Nat.le_of_ble_eq_true rfl) ?_)
    rw [keyCmp_lt]
    walk
    · rename_i hc
      rename News g' L' _ _ => N6
      refine item_keys (k := 2 * q + 1) rfl (N6.isList (.head _)) (by omega) h2' ?_
      walk
      rename News g' L' _ _ => N7
      rename Fr g' L' _ _ => F7
      refine store_keys rfl F7 N7 hne hn' h2' ?_
      intro h8 F8 N8
      clear F7 N7
      walk
      rename News g' L' _ _ => N9
      rename Fr g' L' _ _ => F9
      first | refine ws_next (n' := ks.length - (2 * q + 1)) (F9) (N9) (by omega) (hJ1 _ _ _ (Ex6.mk _ (2 * q + 1) _ _ _ _ ⟨rfl, ⟨rfl, rfl, rfl, rfl, rfl, rfl, trivial⟩, rfl, ?_, by simpa using hlen, by omega, ?_⟩)) | refine ws_cont (n' := ks.length - (2 * q + 1)) (F9) (N9) (by omega) (hJ1 _ _ _ (Ex6.mk _ (2 * q + 1) _ _ _ _ ⟨rfl, ⟨rfl, rfl, rfl, rfl, rfl, rfl, trivial⟩, rfl, ?_, by simpa using hlen, by omega, ?_⟩))
      · intro k hk
        rcases List.mem_or_eq_of_mem_set hk with hk | rfl
        · exact hsub _ hk
        · exact hsub _ (getD_mem ks' _ (by omega))
      · rw [← hsd, supGo_eq ks' q, dif_pos (by omega), if_neg (by simp only [hc]; simp)]
    · rename_i hc _ _ _
      rename News g' L' _ _ => N6
      refine item_keys (k := 2 * q + 2) rfl (N6.isList (.head _)) (by omega) h2' ?_
      walk
      rename News g' L' _ _ => N7
      rename Fr g' L' _ _ => F7
      refine store_keys rfl F7 N7 hne hn' h2' ?_
      intro h8 F8 N8
      clear F7 N7
      walk
      rename News g' L' _ _ => N9
      rename Fr g' L' _ _ => F9
      first | refine ws_next (n' := ks.length - (2 * q + 2)) (F9) (N9) (by omega) (hJ1 _ _ _ (Ex6.mk _ (2 * q + 2) _ _ _ _ ⟨rfl, ⟨rfl, rfl, rfl, rfl, rfl, rfl, trivial⟩, rfl, ?_, by simpa using hlen, by omega, ?_⟩)) | refine ws_cont (n' := ks.length - (2 * q + 2)) (F9) (N9) (by omega) (hJ1 _ _ _ (Ex6.mk _ (2 * q + 2) _ _ _ _ ⟨rfl, ⟨rfl, rfl, rfl, rfl, rfl, rfl, trivial⟩, rfl, ?_, by simpa using hlen, by omega, ?_⟩))
      · intro k hk
        rcases List.mem_or_eq_of_mem_set hk with hk | rfl
        · exact hsub _ hk
        · exact hsub _ (getD_mem ks' _ (by omega))
      · rw [← hsd, supGo_eq ks' q, dif_pos (by omega), if_pos ⟨by omega, hc⟩]
  · rename_i hA _ _ _ hR
    rename News g' L' _ _ => N6
    refine item_keys (k := 2 * q + 1) rfl (N6.isList (.head _)) (by omega) h2' ?_
    walk
    rename News g' L' _ _ => N7
    rename Fr g' L' _ _ => F7
    refine store_keys rfl F7 N7 hne hn' h2' ?_
    intro h8 F8 N8
    clear F7 N7
    walk
    rename News g' L' _ _ => N9
    rename Fr g' L' _ _ => F9
    first | refine ws_next (n' := ks.length - (2 * q + 1)) (F9) (N9) (by omega) (hJ1 _ _ _ (Ex6.mk _ (2 * q + 1) _ _ _ _ ⟨rfl, ⟨rfl, rfl, rfl, rfl, rfl, rfl, trivial⟩, rfl, ?_, by simpa using hlen, by omega, ?_⟩)) | refine ws_cont (n' := ks.length - (2 * q + 1)) (F9) (N9) (by omega) (hJ1 _ _ _ (Ex6.mk _ (2 * q + 1) _ _ _ _ ⟨rfl, ⟨rfl, rfl, rfl, rfl, rfl, rfl, trivial⟩, rfl, ?_, by simpa using hlen, by omega, ?_⟩))
    · intro k hk
      rcases List.mem_or_eq_of_mem_set hk with hk | rfl
      · exact hsub _ hk
      · exact hsub _ (getD_mem ks' _ (by omega))
    · rw [← hsd, supGo_eq ks' q, dif_pos (by omega), if_neg (by omega)]
  · rename_i hA
    refine hQ1 _ _ ?_
    walk
    refine store_keys rfl F1 N1 hne hn' h2' ?_
    intro h8 F8 N8
    clear F1 N1
    walk
    have e1 : supGo ks pos = (ks', q) := by
      rw [← hsd, supGo_eq ks' q, dif_neg (by omega)]
    refine lift rfl (Nat.le_of_ble_eq_true rfl) rfl (Nat.le_of_ble_eq_true rfl) (siftdown_spec (cl := []) B' F8 X' T' rfl N8 hne ?_ (by simpa using (by omega : q < ks'.length)) (by simp; omega) ?_)
    · intro k hk
      rcases List.mem_or_eq_of_mem_set hk with hk | rfl
      · exact hK _ (hsub _ hk)
      · exact hK _ hxm
    intro h9 tk9 F9 N9
    have e3 : sdown (ks'.set q x) ((ks'.set q x).getD q (0, 0, 0)) pos q = sup ks pos := by
      unfold sup
      rw [e1, hx]
      have : (ks'.set q x).getD q (0, 0, 0) = x := by simp [List.getD, show q < ks'.length by omega]
      rw [this]
    rw [e3] at N9
    clear F8 N8
    walk
    exact h _ _ (by assumption) (by assumption)
end
section
theorem News.swap {h₀ h : Heap} {L : Addr} {x y : Addr × Obj} {r : List (Addr × Obj)} (N : News h₀ L h (x :: y :: r)) : News h₀ L h (y :: x :: r) := fun p hp => by
  rcases List.mem_cons.mp hp with rfl | hp
  · exact N _ (.tail _ (.head _))
  · rcases List.mem_cons.mp hp with rfl | hp
    · exact N _ (.head _)
    · exact N _ (.tail _ (.tail _ hp))
theorem News.drop1 {h₀ h : Heap} {L : Addr} {x : Addr × Obj} {r : List (Addr × Obj)} (N : News h₀ L h (x :: r)) : News h₀ L h r := fun p hp => N p (.tail _ hp)
theorem News.sub {h₀ h : Heap} {L : Addr} {l r : List (Addr × Obj)} (N : News h₀ L h l) (hs : ∀ p ∈ r, p ∈ l) : News h₀ L h r := fun p hp => N p (hs p hp)
theorem News.one {h₀ h : Heap} {L : Addr} {l : List (Addr × Obj)} {a : Addr × Obj} (N : News h₀ L h l) (ha : a ∈ l) : News h₀ L h (a :: l) := News.sub N fun _ hp => (List.mem_cons.mp hp).elim (fun e => e ▸ ha) id
theorem News.two {h₀ h : Heap} {L : Addr} {l : List (Addr × Obj)} {a b : Addr × Obj} (N : News h₀ L h l) (ha : a ∈ l) (hb : b ∈ l) : News h₀ L h (a :: b :: l) := News.one (News.one N hb) (.tail _ ha)

theorem rng_b (k : Int) (i : Nat) : k - (i : Int) - 1 = k - ((i + 1 : Nat) : Int) := by lia
theorem rng_c (n : Nat) : ((n + 1 : Nat) : Int) - 1 = (n : Int) := by lia
theorem rng_d (n : Nat) : (0 : Int) < ((n + 1 : Nat) : Int) := by lia
noncomputable abbrev riObj (x left step : Int) : Obj := { cls := .type "range_iterator", dict := none, data := .fields #[rawInt x, rawInt left, rawInt step], slots := #[] }
noncomputable def isLi (o : Obj) (l : Addr) (i : Nat) : Prop := o.cls = .type "list_iterator" ∧ o.data = .fields #[.ref l, .int i 0]

section
variable {prog : Program} {w : World} {A : Around} {E : Value → Shared → Prop} {s : Shared} {h₀ : Heap} {L : Addr} {m : Str → Option Value} {rest : List (Addr × Obj)}

/-- a news' object is turned in place -/
theorem led_turn {h h' : Heap} {D : Addr} {o o' : Obj} (F : Fr h₀ L h m) (N : News h₀ L h ((D, o) :: rest)) (hne : ∀ p ∈ rest, p.1 ≠ D) (hs : Heap.SameBut D h h') (ho : h'.get? D = some o') :
    Fr h₀ L h' m ∧ News h₀ L h' ((D, o') :: rest) := by
  have z := N _ (.head _)
  refine ⟨F.change hs z.2.1 z.2.2, fun p hp => ?_⟩
  rcases List.mem_cons.mp hp with rfl | hp
  · exact ⟨ho, z.2⟩
  · have y := N p (.tail _ hp)
    exact ⟨(hs.2 _ (hne p hp)).trans y.1, y.2⟩
/-- a news' object is lost -/
theorem led_lost {h h' : Heap} {D : Addr} {o : Obj} (F : Fr h₀ L h m) (N : News h₀ L h ((D, o) :: rest)) (hne : ∀ p ∈ rest, p.1 ≠ D) (hs : Heap.ExtBut D h h') :
    Fr h₀ L h' m ∧ News h₀ L h' rest := by
  have z := N _ (.head _)
  refine ⟨⟨?_, fun b o e => hs b o (fun q => ?_) (F.keep b o e), F.above⟩, fun p hp => ?_⟩
  · obtain ⟨oL, es, ep, hL, r⟩ := F.ns
    exact ⟨oL, es, ep, hs _ _ (Ne.symm z.2.1) hL, r⟩
  · have y := z.2.2
    subst q
    rw [e] at y; cases y
  · have y := N p (.tail _ hp)
    exact ⟨hs _ _ (hne p hp) y.1, y.2⟩

theorem next_range {I : Addr} {x left step : Int} {Q : Option Value → Shared → Prop} (F : Fr h₀ L s.heap m) (N : News h₀ L s.heap ((I, riObj x left step) :: rest)) (hne : ∀ p ∈ rest, p.1 ≠ I) (hl : 0 < left)
    (h : ∀ h', Fr h₀ L h' m → News h₀ L h' ((I, riObj (x + step) (left - 1) step) :: rest) → Q (some (.int x s.toks)) { s with heap := h', toks := s.toks + 1 }) :
    wpAny (model prog w) A (pyNext (.ref I)) Q E s :=
  wpAny_pyNext_range_item (N _ (.head _)).1 hl fun h' ho hs => let t := led_turn F N hne hs ho; h h' t.1 t.2
theorem next_range_end {I : Addr} {x left step : Int} {Q : Option Value → Shared → Prop} (hh : A.handled = none) (F : Fr h₀ L s.heap m) (N : News h₀ L s.heap ((I, riObj x left step) :: rest)) (hne : ∀ p ∈ rest, p.1 ≠ I) (hl : left ≤ 0)
    (h : ∀ h', Fr h₀ L h' m → News h₀ L h' rest → Q none { s with heap := h' }) :
    wpAny (model prog w) A (pyNext (.ref I)) Q E s :=
  wpAny_pyNext_range_end hh (N _ (.head _)).1 hl fun h' hs => let t := led_lost F N hne hs; h h' t.1 t.2

theorem next_list {I l : Addr} {o : Obj} {i : Nat} {vs : List Value} {Q : Option Value → Shared → Prop} (F : Fr h₀ L s.heap m) (N : News h₀ L s.heap ((I, o) :: rest)) (hne : ∀ p ∈ rest, p.1 ≠ I) (ho : isLi o l i)
    (hl : s.heap.IsList l vs.toArray) (hi : i < vs.length)
    (h : ∀ h' o', isLi o' l (i + 1) → Fr h₀ L h' m → News h₀ L h' ((I, o') :: rest) → Q (some (vs.getD i .none)) { s with heap := h' }) :
    wpAny (model prog w) A (pyNext (.ref I)) Q E s := by
  have z := (N _ (.head _)).1
  have hit : s.heap.IsListIter I l i := ⟨_, z, ho⟩
  refine wpAny_pyNext_list_item hit hl (x := vs.getD i .none) (by simp [hi]) fun h' ⟨o', hg, hc, hd⟩ hs => ?_
  have t := led_turn F N hne hs hg
  exact h h' o' ⟨hc, hd⟩ t.1 t.2
theorem next_list_end {I l : Addr} {o : Obj} {i : Nat} {vs : List Value} {Q : Option Value → Shared → Prop} (hh : A.handled = none) (F : Fr h₀ L s.heap m) (N : News h₀ L s.heap ((I, o) :: rest)) (hne : ∀ p ∈ rest, p.1 ≠ I) (ho : isLi o l i)
    (hl : s.heap.IsList l vs.toArray) (hi : vs.length ≤ i)
    (h : ∀ h', Fr h₀ L h' m → News h₀ L h' rest → Q none { s with heap := h' }) :
    wpAny (model prog w) A (pyNext (.ref I)) Q E s := by
  have z := (N _ (.head _)).1
  have hit : s.heap.IsListIter I l i := ⟨_, z, ho⟩
  refine wpAny_pyNext_list_end hh hit hl (by simp [hi]) fun h' hs => ?_
  have t := led_lost F N hne hs
  exact h h' t.1 t.2

theorem led_new {h : Heap} {o : Obj} {news : List (Addr × Obj)} (F : Fr h₀ L h m) (N : News h₀ L h news) (hf : o.isFreed = false) :
    Fr h₀ L (h.push o) m ∧ News h₀ L (h.push o) ((h.objs.size, o) :: news) ∧ ∀ p ∈ news, p.1 ≠ h.objs.size :=
  ⟨F.push o, N.push F o hf, fun p hp => Nat.ne_of_lt (Heap.lt_size (N p hp).1)⟩

/-- reversed of a range -/
theorem code_reversed_range {r : Addr} {a b c : Int} {t u v : Tok} {Q₁ : Value → Shared → Prop} (hr : IsRange s.heap r a b c t u v)
    (hsm : (Builtin.Range.rangeFitsLong a && Builtin.Range.rangeFitsLong b && Builtin.Range.rangeFitsLong c && Builtin.Range.rangeFitsLong (-c) && Builtin.Range.rangeFitsLong (a - c) && Builtin.Range.rangeFitsLong (Builtin.Range.rangeSize a b c)) = true)
    (h : Q₁ (.ref s.heap.objs.size) { s with heap := s.heap.push (riObj (a + (Builtin.Range.rangeSize a b c - 1) * c) (Builtin.Range.rangeSize a b c) (-c)) }) :
    codeAny (model prog w) A (.call (.builtin "reversed.__new__") ⟨[.type "reversed", .ref r], []⟩) (wants Q₁ E) s := by
  have hT : s.TypeIs (.ref r) "range" := ⟨_, hr, rfl⟩
  refine codeAny_of_tree ?_
  show wpAny _ A.in1 (do checkBuiltinCall "reversed.__new__" ⟨[.type "reversed", .ref r], []⟩; again (.builtin "reversed.__new__" ⟨[.type "reversed", .ref r], []⟩)) _ _ s
  refine wpAny_bind (wpAny_of_eq (F.newCall_reversed_1 _) (wpAny_pure ⟨plainId_quiet F.plain_reversed_new _, codeAny_builtin F.entry_reversed_new ?_⟩))
  rw [Around.under_plainId F.plain_reversed_new _]
  unfold Builtin.«reversed.__new__»
  refine wpAny_bind (wpAny_of_eq (newClass_reversed _) ?_)
  try dsimp only
  refine wpAny_bind (wpAny_of_eq (a := ()) (by first | rfl | kernel_rfl) ?_)
  refine wpAny_bind (wpAny_of_eq (a := ()) (by first | rfl | kernel_rfl) ?_)
  try dsimp only
  refine wpAny_bind (wpAny_specialOf hT F.slot_range_reversed.lookup ?_)
  try dsimp only
  refine wpAny_bind (wpAny_of_eq (F.slot_range_reversed.bind _) ?_)
  try dsimp only
  first
  | rw [if_neg (show ¬ ((Value.builtin "range.__reversed__" == Value.none) = true) from Bool.false_ne_true)]
  | (show wpAny _ _ (if (Value.builtin "range.__reversed__" == Value.none) = true then _ else _) _ _ _; rw [if_neg (show ¬ ((Value.builtin "range.__reversed__" == Value.none) = true) from Bool.false_ne_true)])
  refine wpAny_bind (wpAny_rule ?_)
  refine wpAny_bind (m := runValue (.call (.builtin "range.__reversed__") ⟨[.ref r], []⟩)) (show wpAny _ _ (call (.builtin "range.__reversed__") [.ref r]) _ _ _ from ?_)
  refine wpAny_call_entry F.slot_range_reversed hT F.entry_range_reversed ?_ (F.args_range_reversed_1 _)
  unfold Builtin.«range.__reversed__»
  refine wpAny_bind (wpAny_of_eq (a := Value.ref r) rfl ?_)
  refine wpAny_bind (m := Builtin.Range.rangeFields (.ref r)) ?_
  unfold Builtin.Range.rangeFields
  refine wpAny_bind (wpAny_field hr rfl (x := .int a t) rfl ?_)
  refine wpAny_bind (wpAny_of_eq (a := some a) rfl ?_)
  refine wpAny_bind (wpAny_field hr rfl (x := .int b u) rfl ?_)
  refine wpAny_bind (wpAny_of_eq (a := some b) rfl ?_)
  refine wpAny_bind (wpAny_field hr rfl (x := .int c v) rfl ?_)
  refine wpAny_bind (wpAny_of_eq (a := some c) rfl ?_)
  refine wpAny_pure ?_
  dsimp only
  rw [hsm]
  simp only [Bool.not_true, Bool.false_eq_true, if_false, if_true]
  refine wpAny_bind (wpAny_newObj_type ?_)
  refine wpAny_pure ⟨_, rfl, wpAny_pure h⟩

theorem F_sub_ri : isSubtype (.type "range_iterator") (.type "reversed") = pure false := by rw [isSubtype_type]; kernel_rfl

theorem call_reversed_range {r : Addr} {a b c : Int} {t u v : Tok} {Q : Value → Shared → Prop} (hr : IsRange s.heap r a b c t u v)
    (hsm : (Builtin.Range.rangeFitsLong a && Builtin.Range.rangeFitsLong b && Builtin.Range.rangeFitsLong c && Builtin.Range.rangeFitsLong (-c) && Builtin.Range.rangeFitsLong (a - c) && Builtin.Range.rangeFitsLong (Builtin.Range.rangeSize a b c)) = true)
    (h : Q (.ref s.heap.objs.size) { s with heap := s.heap.push (riObj (a + (Builtin.Range.rangeSize a b c - 1) * c) (Builtin.Range.rangeSize a b c) (-c)) }) :
    wpAny (model prog w) A (call (.type "reversed") [.ref r]) Q E s := by
  refine callType_other (U := "range_iterator") (Q₁ := fun obj s₁ => obj = .ref s.heap.objs.size ∧ s₁ = { s with heap := s.heap.push (riObj (a + (Builtin.Range.rangeSize a b c - 1) * c) (Builtin.Range.rangeSize a b c) (-c)) }) (by decide +kernel) F.create_reversed ⟨_, _, F.mro_reversed⟩ F.made_reversed F_sub_ri (F.typeCall_reversed_1 _) (code_reversed_range hr hsm ⟨rfl, rfl⟩) ?_
  rintro obj s₁ ⟨rfl, rfl⟩
  exact ⟨⟨_, Heap.get?_push_size _ rfl, rfl⟩, h⟩
end

/-- a for over an iterator of the ledger's -/
theorem For_led {prog : Program} {w : World} {A : Around} {E : Value → Shared → Prop} {s : Shared} {h₀ : Heap} {L : Addr} {Q : Flow → Shared → Prop} {env : Env} {target : PySem.Expr} {I : Addr} {body : List Stmt} {m : Str → Option Value} {news : List (Addr × Obj)}
    (J : Nat → (Str → Option Value) → List (Addr × Obj) → Prop) {n₀ : Nat} (F : Fr h₀ L s.heap m) (N : News h₀ L s.heap news) (hJ : J n₀ m news)
    (turn : ∀ n m₁ news₁ h₁ tk₁, Fr h₀ L h₁ m₁ → News h₀ L h₁ news₁ → J n m₁ news₁ →
      wpAny (model prog w) A (pyNext (.ref I)) (fun r s₁ => match r with
        | none => Q .next s₁
        | some v => wpAny (model prog w) A (assign target env v) (fun _ s₂ => wpAny (model prog w) A (execs body env) (WhileStep2 h₀ L s J Q n) E s₂) E s₁) E { s with heap := h₁, toks := tk₁ })
    (hE : PassesOwn (model prog w) A env E := by passes_own) (ht : ∀ v, letOwnedTupleGo target (.ref I) v = pure () := by intro _; rfl) :
    codeAny (model prog w) A (.forLoop target (.ref I) body [] env) (fun r s' => match r with | .ok f => Q f s' | .error e => cameBackBy (model prog w) A env E e s') s := by
  refine codeAny_forLoop (fun n s' => ∃ h₁ tk₁ m₁ news₁, s' = { s with heap := h₁, toks := tk₁ } ∧ Fr h₀ L h₁ m₁ ∧ News h₀ L h₁ news₁ ∧ J n m₁ news₁) ?_ n₀ ⟨s.heap, s.toks, m, news, rfl, F, N, hJ⟩ ht
  rintro n s' ⟨h₁, tk₁, m₁, news₁, rfl, F₁, N₁, J₁⟩
  refine wpAny_mono (turn n m₁ news₁ h₁ tk₁ F₁ N₁ J₁) (fun r s₁ h1 => ?_) hE
  cases r with
  | none => exact wpAny_execs_nil h1
  | some v =>
    refine wpAny_mono h1 (fun _ s₂ h2 => wpAny_mono h2 (fun f s₃ h3 => ?_) hE) hE
    cases f with
    | next =>
      obtain ⟨h', tk, m₂, news₂, n', rfl, F₂, N₂, hn, J₂⟩ := h3
      exact ⟨n', hn, h', tk, m₂, news₂, rfl, F₂, N₂, J₂⟩
    | cont =>
      obtain ⟨h', tk, m₂, news₂, n', rfl, F₂, N₂, hn, J₂⟩ := h3
      exact ⟨n', hn, h', tk, m₂, news₂, rfl, F₂, N₂, J₂⟩
    | brk => exact h3
    | ret v => exact h3
end
section
open PyProof.Rows.LCg (NsObj ns_obj)

noncomputable abbrev noE : Value → Shared → Prop := fun _ _ => False

noncomputable def LcDone (h₀ : Heap) (L : Addr) (m : Str → Option Value) (C D : Addr) (s : Shared) (Fin : List Value → Nat → List (Addr × Obj) → Prop) (r : Result) (s' : Shared) : Prop := match r with
  | .ok _ => ∃ h tk ys n oC mc news', s' = { s with heap := h, toks := tk } ∧ Fr h₀ L h m ∧ News h₀ L h ((D, listOf (ys : List Value).toArray n) :: (C, oC) :: news') ∧ NsObj oC mc ∧ (∀ p ∈ news', p.1 ≠ C ∧ p.1 ≠ D) ∧ C ≠ D ∧ Fin ys n news'
  | .error _ => False

section
variable {prog : Program} {w : World} {A : Around} {E : Value → Shared → Prop} {s : Shared} {h₀ : Heap} {L : Addr} {m : Str → Option Value} {env : Env}

theorem lc_enter {e elt target iter : PySem.Expr} {ifs : List PySem.Expr} {gs : List Comprehension} {scope : Scope} {pos : Pos} {cl : List (Str × Addr)} {I : Addr} {oI : Obj} {news : List (Addr × Obj)} {s₂ : Shared} {RR : Value → Addr → Result → Shared → Prop}
    (he : e = .ListComp elt (⟨target, iter, ifs, 0⟩ :: gs) scope pos)
    (F : Fr h₀ L s₂.heap m) (N : News h₀ L s₂.heap ((I, oI) :: news))
    (hcell : ∀ y ∈ scope.names, y.2 ≠ .cell) (hkind : scope.kind = .function)
    (hself : ∀ (s' : Shared) (Q' : Value → Shared → Prop) (E' : Value → Shared → Prop), s'.heap.get? I = some oI → Q' (.ref I) s' → wpAny (model prog w) A (pyIter (.ref I)) Q' E' s')
    (body : ∀ D C oC h tk, Fr h₀ L h m → News h₀ L h ((C, oC) :: (D, listOf #[] 0) :: (I, oI) :: news) → NsObj oC (fun _ => none) → C ≠ D → C ≠ I → D ≠ I → (∀ p ∈ news, p.1 ≠ C ∧ p.1 ≠ D) →
      codeAny (model prog w) A (.compLoop e 0 (.ref I) (.ref D) (compEnvC scope cl C env)) (RR (.ref D) C) { s₂ with heap := h, toks := tk }) :
    wpAny (model prog w) A (newList []) (fun acc s₃ => wpAny (model prog w) A (newFunctionEnv scope env.globals cl [] env.qual none .none (some env)) (fun cenv s₄ =>
      codeAny (model prog w) A (.compStart e 0 (.ref I) acc { cenv with scope := relabel scope env }) (RR acc cenv.locals) s₄) E s₃) E s₂ := by
  subst he
  refine wpAny_newObj_type (wpAny_newFunctionEnv hcell (by intro y hy; simp at hy) (fun h₁ hns₁ hsb₁ => ?_) hkind)
  dsimp only at hns₁ hsb₁ ⊢
  obtain ⟨F2, N2, ne2⟩ := led_new (o := listOf ([] : List Value).toArray 0) F N rfl
  generalize hH2 : s₂.heap.push { cls := .type "list", dict := none, data := .seq ([] : List Value).toArray } = H2 at hns₁ hsb₁ ⊢
  have hH2' : s₂.heap.push (listOf ([] : List Value).toArray 0) = H2 := hH2
  rw [hH2'] at F2 N2
  have hC : H2.objs.size = s₂.heap.objs.size + 1 := by rw [← hH2, Heap.size_push]
  obtain ⟨oC, hgC, hoC⟩ := ns_obj hns₁
  have old : ∀ b o, H2.get? b = some o → h₁.get? b = some o := fun b o e => hsb₁.extBut b o (Nat.ne_of_lt (Heap.lt_size e)) (Heap.get?_push_of_some _ e)
  have fresh₀ : h₀.get? H2.objs.size = none := by
    cases e : h₀.get? H2.objs.size with
    | none => rfl
    | some o' => exact absurd (Heap.lt_size (F2.keep _ _ e)) (Nat.lt_irrefl _)
  have F3 : Fr h₀ L h₁ m := F2.keeps old
  have N3 : News h₀ L h₁ ((H2.objs.size, oC) :: (s₂.heap.objs.size, listOf #[] 0) :: (I, oI) :: news) := fun p hp => by
    rcases List.mem_cons.mp hp with rfl | hp
    · exact ⟨hgC, Nat.ne_of_gt F2.ns.lt, fresh₀⟩
    · exact N2.grown old p hp
  have hne : ∀ p ∈ (I, oI) :: news, p.1 ≠ H2.objs.size ∧ p.1 ≠ s₂.heap.objs.size := fun p hp => ⟨Nat.ne_of_lt (by rw [hC]; exact Nat.lt_succ_of_lt (Heap.lt_size (N p hp).1)), ne2 p hp⟩
  have loop : ∀ tk, codeAny (model prog w) A (.compLoop (.ListComp elt (⟨target, iter, ifs, 0⟩ :: gs) scope pos) 0 (.ref I) (.ref s₂.heap.objs.size) (compEnvC scope cl H2.objs.size env)) (RR (.ref s₂.heap.objs.size) H2.objs.size) { s₂ with heap := h₁, toks := tk } := fun tk =>
    body _ _ oC h₁ tk F3 N3 (by simpa using hoC) (Nat.ne_of_gt (by rw [hC]; exact Nat.lt_succ_self _)) (Ne.symm (hne (I, oI) (.head _)).1) (Ne.symm (hne (I, oI) (.head _)).2) (fun p hp => hne p (.tail _ hp))
  exact codeAny_compStart_list (loop _) (hself _ _ _ (N3 (I, oI) (.tail _ (.tail _ (.head _)))).1 (loop _))

theorem lc_post {C D : Addr} {s₂ : Shared} {Q : Value → Shared → Prop} {r : Result} {s' : Shared}
    (h : LcDone h₀ L m C D s₂ (fun ys n news' => ∀ h'' tk, Fr h₀ L h'' m → News h₀ L h'' ((D, listOf ys.toArray n) :: news') → (∀ p ∈ news', p.1 ≠ D) → Q (.ref D) { s₂ with heap := h'', toks := tk }) r s') :
    compPost (model prog w) A E none Q (.ref D) C r s' := by
  cases r with
  | error x => exact h.elim
  | ok f =>
    obtain ⟨h, tk, ys, n, oC, mc, news', rfl, F, N, hC, off, hCD, fin⟩ := h
    have zC := N (C, oC) (.tail _ (.head _))
    refine ⟨mc, hC.ns zC.1, fun h'' hs'' => fin h'' tk (F.change hs'' zC.2.1 zC.2.2) (fun p hp => ?_) fun p hp => (off p hp).2⟩
    rcases List.mem_cons.mp hp with rfl | hp
    · have z := N _ (.head _)
      exact ⟨hs''.extBut _ _ (Ne.symm hCD) z.1, z.2⟩
    · have z := N p (.tail _ (.tail _ hp))
      exact ⟨hs''.extBut _ _ (off p hp).1 z.1, z.2⟩

theorem lc_postA {C D : Addr} {s₂ : Shared} {y : Str} {py : Pos} {Q : Flow → Shared → Prop} {r : Result} {s' : Shared} (hL : env.locals = L)
    (hy : env.kindOf y = some .local) (hp : (env.scope.kind == .class || (env.scope.kind == .module && env.locals != env.globals)) = false)
    (h : LcDone h₀ L m C D s₂ (fun ys n news' => ∀ h'' tk, Fr h₀ L h'' (fun z => if z = y then some (.ref D) else m z) → News h₀ L h'' ((D, listOf ys.toArray n) :: news') → (∀ p ∈ news', p.1 ≠ D) → Q .next { s₂ with heap := h'', toks := tk }) r s') :
    compPost (model prog w) A E (some (assign (.Name y py) env)) (fun _ s' => Q .next s') (.ref D) C r s' := by
  subst hL
  cases r with
  | error x => exact h.elim
  | ok f =>
    obtain ⟨h, tk, ys, n, oC, mc, news', rfl, F, N, hC, off, hCD, fin⟩ := h
    have zC := N (C, oC) (.tail _ (.head _))
    show wpAny _ A (assign (.Name y py) env (.ref D)) _ _ _
    refine wpAny_assign_Name (wpAny_storeName_local hy F.ns (fun h₂ hn₂ hs₂ => ?_) hp)
    have F₂ := F.set hn₂ hs₂
    refine ⟨mc, (hC.ns zC.1).sameBut hs₂ zC.2.1, fun h'' hs'' => fin h'' _ (F₂.change hs'' zC.2.1 zC.2.2) (fun p hp => ?_) fun p hp => (off p hp).2⟩
    rcases List.mem_cons.mp hp with rfl | hp
    · have z := N _ (.head _)
      exact ⟨hs''.extBut _ _ (Ne.symm hCD) (hs₂.extBut _ _ z.2.1 z.1), z.2⟩
    · have z := N p (.tail _ (.tail _ hp))
      exact ⟨hs''.extBut _ _ (off p hp).1 (hs₂.extBut _ _ z.2.1 z.1), z.2⟩

/-- what the source of a comprehension hands on: an iterator of the ledger's -/
noncomputable def LcSrc (prog : Program) (w : World) (A : Around) (h₀ : Heap) (L : Addr) (m : Str → Option Value) (env : Env) (e : PySem.Expr) (scope : Scope) (cl : List (Str × Addr)) (Fin : Shared → Addr → List Value → Nat → List (Addr × Obj) → Prop) (it : Value) (s₂ : Shared) : Prop :=
  ∃ I oI news, it = .ref I ∧ Fr h₀ L s₂.heap m ∧ News h₀ L s₂.heap ((I, oI) :: news) ∧
    (∀ (s' : Shared) (Q' : Value → Shared → Prop) (E' : Value → Shared → Prop), s'.heap.get? I = some oI → Q' (.ref I) s' → wpAny (model prog w) A (pyIter (.ref I)) Q' E' s') ∧
    ∀ D C oC h tk, Fr h₀ L h m → News h₀ L h ((C, oC) :: (D, listOf #[] 0) :: (I, oI) :: news) → NsObj oC (fun _ => none) → C ≠ D → C ≠ I → D ≠ I → (∀ p ∈ news, p.1 ≠ C ∧ p.1 ≠ D) →
      codeAny (model prog w) A (.compLoop e 0 (.ref I) (.ref D) (compEnvC scope cl C env)) (LcDone h₀ L m C D s₂ (Fin s₂ D)) { s₂ with heap := h, toks := tk }

theorem LC_eval {elt target iter : PySem.Expr} {ifs : List PySem.Expr} {gs : List Comprehension} {scope : Scope} {pos : Pos} {cl : List (Str × Addr)} {Q : Value → Shared → Prop}
    (hclos : closureFor scope env = pure cl) (hcell : ∀ y ∈ scope.names, y.2 ≠ .cell) (hkind : scope.kind = .function)
    (hnames : ∀ y ∈ scope.names, y.2 = .local → scope.names.lookup y.1 = some .local)
    (h : wpAny (model prog w) A (eval iter env) (fun xv s₁ => wpAny (model prog w) A (pyIter xv) (LcSrc prog w A h₀ L m env (.ListComp elt (⟨target, iter, ifs, 0⟩ :: gs) scope pos) scope cl
      (fun s₂ D ys n news' => ∀ h'' tk, Fr h₀ L h'' m → News h₀ L h'' ((D, listOf ys.toArray n) :: news') → (∀ p ∈ news', p.1 ≠ D) → Q (.ref D) { s₂ with heap := h'', toks := tk })) E s₁) E s)
    (hs : ∀ x, foldedSetIterable iter env x = pure x := by intro _; rfl) :
    wpAny (model prog w) A (eval (.ListComp elt (⟨target, iter, ifs, 0⟩ :: gs) scope pos) env) Q E s := by
  rw [eval_ListComp]
  refine wpAny_comprehension_free (use := none) rfl hs hclos hkind hnames (wpAny_mono h (fun xv s₁ h₁ => wpAny_mono h₁ (fun it s₂ h₂ => ?_) fun _ _ e => e) fun _ _ e => e)
  obtain ⟨I, oI, news, rfl, F, N, hself, body⟩ := h₂
  exact lc_enter (RR := compPost (model prog w) A E none Q) rfl F N hcell hkind hself fun D C oC h tk F' N' n1 n2 n3 n4 n5 => codeAny_mono (body D C oC h tk F' N' n1 n2 n3 n4 n5) fun r s' hr => lc_post hr

theorem LC_assign {elt target iter : PySem.Expr} {ifs : List PySem.Expr} {gs : List Comprehension} {scope : Scope} {pos spos py : Pos} {y : Str} {cl : List (Str × Addr)} {Q : Flow → Shared → Prop}
    (hL : env.locals = L) (hsw : swapsWith (.ListComp elt (⟨target, iter, ifs, 0⟩ :: gs) scope pos) (some (.Name y py)) spos.line env = pure true)
    (hclos : closureFor scope env = pure cl) (hcell : ∀ y ∈ scope.names, y.2 ≠ .cell) (hkind : scope.kind = .function)
    (hnames : ∀ y ∈ scope.names, y.2 = .local → scope.names.lookup y.1 = some .local)
    (hy : env.kindOf y = some .local) (hp : (env.scope.kind == .class || (env.scope.kind == .module && env.locals != env.globals)) = false)
    (h : wpAny (model prog w) A (eval iter env) (fun xv s₁ => wpAny (model prog w) A (pyIter xv) (LcSrc prog w A h₀ L m env (.ListComp elt (⟨target, iter, ifs, 0⟩ :: gs) scope pos) scope cl
      (fun s₂ D ys n news' => ∀ h'' tk, Fr h₀ L h'' (fun z => if z = y then some (.ref D) else m z) → News h₀ L h'' ((D, listOf ys.toArray n) :: news') → (∀ p ∈ news', p.1 ≠ D) → Q .next { s₂ with heap := h'', toks := tk })) E s₁) E s)
    (hs : ∀ x, foldedSetIterable iter env x = pure x := by intro _; rfl) :
    wpAny (model prog w) A (exec (.Assign [.Name y py] (.ListComp elt (⟨target, iter, ifs, 0⟩ :: gs) scope pos) spos) env) Q E s := by
  rw [exec_Assign_Name_used _ _ _ _ hsw]
  refine wpAny_bind (wpAny_standAt (wpAny_bind ?_))
  show wpAny _ A (do let _ ← comprehension (.ListComp elt (⟨target, iter, ifs, 0⟩ :: gs) scope pos) scope env _ (newList []) false (eval iter env) (some (assign (.Name y py) env))) _ _ s
  refine wpAny_bind (wpAny_mono (wpAny_comprehension_free (use := some (assign (.Name y py) env)) (Q := fun _ s' => Q .next s') rfl hs hclos hkind hnames
    (wpAny_mono h (fun xv s₁ h₁ => wpAny_mono h₁ (fun it s₂ h₂ => ?_) fun _ _ e => e) fun _ _ e => e)) (fun _ s' hq => wpAny_pure (wpAny_pure hq)) fun _ _ e => e)
  obtain ⟨I, oI, news, rfl, F, N, hself, body⟩ := h₂
  exact lc_enter (RR := compPost (model prog w) A E (some (assign (.Name y py) env)) (fun _ s' => Q .next s')) rfl F N hcell hkind hself fun D C oC h tk F' N' n1 n2 n3 n4 n5 => codeAny_mono (body D C oC h tk F' N' n1 n2 n3 n4 n5) fun r s' hr => lc_postA hL hy hp hr

/-- the sources: a list, a range -/
theorem lc_src_list {e : PySem.Expr} {scope : Scope} {cl : List (Str × Addr)} {Fin : Shared → Addr → List Value → Nat → List (Addr × Obj) → Prop} {l : Addr} {vs : List Value} {news : List (Addr × Obj)} {s₁ : Shared}
    (F : Fr h₀ L s₁.heap m) (N : News h₀ L s₁.heap news) (hl : s₁.heap.IsList l vs.toArray)
    (body : ∀ I oI D C oC h tk (hh : Heap), Fr h₀ L h m → News h₀ L h ((C, oC) :: (D, listOf #[] 0) :: (I, oI) :: news) → isLi oI l 0 → NsObj oC (fun _ => none) → C ≠ D → C ≠ I → D ≠ I → (∀ p ∈ news, p.1 ≠ C ∧ p.1 ≠ D) → (∀ p ∈ news, p.1 ≠ I) →
      codeAny (model prog w) A (.compLoop e 0 (.ref I) (.ref D) (compEnvC scope cl C env)) (LcDone h₀ L m C D { s₁ with heap := hh } (Fin { s₁ with heap := hh } D)) { s₁ with heap := h, toks := tk }) :
    wpAny (model prog w) A (pyIter (.ref l)) (LcSrc prog w A h₀ L m env e scope cl Fin) E s₁ := by
  refine wpAny_pyIter_list hl ?_
  obtain ⟨F2, N2, ne2⟩ := led_new (o := { cls := .type "list_iterator", data := .fields #[.ref l, .int 0 0] }) F N rfl
  refine ⟨_, _, news, rfl, F2, N2, fun s' Q' E' hg hq => wpAny_pyIter_listiter (i := 0) ⟨_, hg, rfl, rfl⟩ hq, fun D C oC h tk F' N' n1 n2 n3 n4 n5 => ?_⟩
  exact body _ _ D C oC h tk _ F' N' ⟨rfl, rfl⟩ n1 n2 n3 n4 n5 ne2
theorem lc_src_range {e : PySem.Expr} {scope : Scope} {cl : List (Str × Addr)} {Fin : Shared → Addr → List Value → Nat → List (Addr × Obj) → Prop} {r : Addr} {a b : Int} {t u v : Tok} {n : Int} {news : List (Addr × Obj)} {s₁ : Shared}
    (F : Fr h₀ L s₁.heap m) (N : News h₀ L s₁.heap news) (hr : IsRange s₁.heap r a b 1 t u v) (hsm : Builtin.Range.small a b 1 = true) (hn : Builtin.Range.rangeSize a b 1 = n)
    (body : ∀ I D C oC h tk (hh : Heap), Fr h₀ L h m → News h₀ L h ((C, oC) :: (D, listOf #[] 0) :: (I, riObj a n 1) :: news) → NsObj oC (fun _ => none) → C ≠ D → C ≠ I → D ≠ I → (∀ p ∈ news, p.1 ≠ C ∧ p.1 ≠ D) → (∀ p ∈ news, p.1 ≠ I) →
      codeAny (model prog w) A (.compLoop e 0 (.ref I) (.ref D) (compEnvC scope cl C env)) (LcDone h₀ L m C D { s₁ with heap := hh } (Fin { s₁ with heap := hh } D)) { s₁ with heap := h, toks := tk }) :
    wpAny (model prog w) A (pyIter (.ref r)) (LcSrc prog w A h₀ L m env e scope cl Fin) E s₁ := by
  refine wpAny_pyIter_range hr hsm ?_
  subst hn
  obtain ⟨F2, N2, ne2⟩ := led_new (o := riObj a (Builtin.Range.rangeSize a b 1) 1) F N rfl
  refine ⟨_, _, news, rfl, F2, N2, fun s' Q' E' hg hq => wpAny_pyIter_rangeiter hg hq, fun D C oC h tk F' N' n1 n2 n3 n4 n5 => ?_⟩
  exact body _ D C oC h tk _ F' N' n1 n2 n3 n4 n5 ne2

/-- the own name of a comprehension is stored -/
theorem lc_store {scope : Scope} {cl : List (Str × Addr)} {C : Addr} {oC : Obj} {mc : Str → Option Value} {x : Str} {px : Pos} {v : Value} {rest : List (Addr × Obj)} {Q : Unit → Shared → Prop}
    (hx : scope.names.lookup x = some .local) (hkind : scope.kind = .function) (F : Fr h₀ L s.heap m) (N : News h₀ L s.heap ((C, oC) :: rest)) (hC : NsObj oC mc) (hne : ∀ p ∈ rest, p.1 ≠ C)
    (h : ∀ oC' h', NsObj oC' (fun y => if y = x then some v else mc y) → Fr h₀ L h' m → News h₀ L h' ((C, oC') :: rest) → Q () { s with heap := h', toks := s.toks + 1 }) :
    wpAny (model prog w) A (assign (.Name x px) (compEnvC scope cl C env) v) Q E s := by
  refine wpAny_assign_Name (wpAny_storeName_local (lookup_relabel_local hx) (hC.ns (N _ (.head _)).1) (fun h₃ hn₃ hs₃ => ?_) (by simp [compEnvC, relabel, hkind]))
  obtain ⟨oC', heC, hoC⟩ := ns_obj hn₃
  have t := led_turn F N hne hs₃ heC
  exact h oC' h₃ hoC t.1 t.2

theorem lc_append {D : Addr} {ys : List Value} {n : Nat} {x : Value} {rest : List (Addr × Obj)} {Q : Value → Shared → Prop} (F : Fr h₀ L s.heap m) (N : News h₀ L s.heap ((D, listOf ys.toArray n) :: rest)) (hne : ∀ p ∈ rest, p.1 ≠ D) (hsz : ys.length < 10000)
    (h : ∀ h', Fr h₀ L h' m → News h₀ L h' ((D, listOf (ys ++ [x]).toArray (n + 1)) :: rest) → Q .none { s with heap := h' }) :
    wpAny (model prog w) A (call (.builtin "list.append") [.ref D, x]) Q E s :=
  append_K F N (Upd.head hne) (fun h' F' N' => h h' F' (by simpa using N')) (by rw [sizeLine_eq, List.size_toArray]; lia)

/-- the turns of a comprehension of one clause -/
noncomputable def LcStep (h₀ : Heap) (L : Addr) (m : Str → Option Value) (s : Shared) (J : Nat → List (Addr × Obj) → Prop) (n : Nat) (s₅ : Shared) : Prop :=
  ∃ h' tk news' n', s₅ = { s with heap := h', toks := tk } ∧ Fr h₀ L h' m ∧ News h₀ L h' news' ∧ n' < n ∧ J n' news'
theorem lc_loop {elt target iter : PySem.Expr} {ifs : List PySem.Expr} {scope : Scope} {pos : Pos} {I : Addr} {acc : Value} {cenv : Env} {R : Result → Shared → Prop} {news : List (Addr × Obj)}
    (J : Nat → List (Addr × Obj) → Prop) {n₀ : Nat} (F : Fr h₀ L s.heap m) (N : News h₀ L s.heap news) (hJ : J n₀ news)
    (turn : ∀ n news₁ h₁ tk₁, Fr h₀ L h₁ m → News h₀ L h₁ news₁ → J n news₁ →
      wpAny (model prog w) A (pyNext (.ref I)) (fun r s₁ => match r with
        | none => R (.ok .next) s₁
        | some v => wpAny (model prog w) A (assign target cenv v) (fun _ s₂ =>
          wpAny (model prog w) A (forIn ifs true fun c r => if r = true then do let ok ← isTrue c cenv (eval c cenv); pure (ForInStep.yield ok) else pure (ForInStep.yield r)) (fun ok s₃ =>
            if ok = true then wpAny (model prog w) A (eval elt cenv) (fun x s₄ =>
              wpAny (model prog w) A (call (.builtin "list.append") [acc, x]) (fun _ s₅ => LcStep h₀ L m s J n s₅) noE s₄) noE s₃
            else LcStep h₀ L m s J n s₃) noE s₂) noE s₁) noE { s with heap := h₁, toks := tk₁ })
    (ht : ∀ v, letOwnedTupleGo target (.ref I) v = pure () := by intro _; rfl) :
    codeAny (model prog w) A (.compLoop (.ListComp elt [⟨target, iter, ifs, 0⟩] scope pos) 0 (.ref I) acc cenv) R s := by
  refine codeAny_compLoop_tests (fun n s' => ∃ h₁ tk₁ news₁, s' = { s with heap := h₁, toks := tk₁ } ∧ Fr h₀ L h₁ m ∧ News h₀ L h₁ news₁ ∧ J n news₁) ?_ n₀ ⟨s.heap, s.toks, news, rfl, F, N, hJ⟩ ht
  rintro n s' ⟨h₁, tk₁, news₁, rfl, F₁, N₁, J₁⟩
  have fin : ∀ s₅, LcStep h₀ L m s J n s₅ → ∃ k, k < n ∧ ∃ h₁ tk₁ news₁, s₅ = { s with heap := h₁, toks := tk₁ } ∧ Fr h₀ L h₁ m ∧ News h₀ L h₁ news₁ ∧ J k news₁ := by
    rintro s₅ ⟨h', tk, news', n', rfl, F', N', hn, J'⟩
    exact ⟨n', hn, h', tk, news', rfl, F', N', J'⟩
  refine wpAny_mono (turn n news₁ h₁ tk₁ F₁ N₁ J₁) (fun r s₁ h1 => ?_) fun _ _ x => x.elim
  cases r with
  | none => exact h1
  | some v =>
    refine wpAny_mono h1 (fun _ s₂ h2 => wpAny_mono h2 (fun ok s₃ h3 => ?_) fun _ _ x => x.elim) fun _ _ x => x.elim
    cases ok with
    | true =>
      simp only [if_true] at h3 ⊢
      exact wpAny_mono h3 (fun x s₄ h4 => wpAny_mono h4 (fun _ s₅ h5 => fin s₅ h5) fun _ _ x => x.elim) fun _ _ x => x.elim
    | false =>
      simp only [Bool.false_eq_true, if_false] at h3 ⊢
      exact fin s₃ h3
end
end
section
open PyProof.Rows.LCg (NsObj ns_obj)

theorem compTurn_out (elt t1 it1 t2 it2 : PySem.Expr) (ifs1 ifs2 : List PySem.Expr) (scope : Scope) (pos : Pos) (it acc : Value) (env : Env) :
    compTurn (.ListComp elt [⟨t1, it1, ifs1, 0⟩, ⟨t2, it2, ifs2, 0⟩] scope pos) 0 it acc env = (do
      standAt it1.pos
      match ← pyNext it with
      | none => pure (.done .next)
      | some v =>
        letOwnedTupleGo t1 it v
        assign t1 env v
        let mut ok := true
        for c in ifs1 do
          if ok then ok ← isTrue c env (eval c env)
        if ok then
          let x ← eval it2 env
          standAt it2.pos
          let x ← foldedSetIterable it2 env x
          let _ ← runOwn (.compStart (.ListComp elt [⟨t1, it1, ifs1, 0⟩, ⟨t2, it2, ifs2, 0⟩] scope pos) 1 (← holding [x] (pyIter x)) acc env) env
        again (.compLoop (.ListComp elt [⟨t1, it1, ifs1, 0⟩, ⟨t2, it2, ifs2, 0⟩] scope pos) 0 it acc env)) := by rfl
theorem compTurn_in (elt t1 it1 t2 it2 : PySem.Expr) (ifs1 ifs2 : List PySem.Expr) (scope : Scope) (pos : Pos) (it acc : Value) (env : Env) :
    compTurn (.ListComp elt [⟨t1, it1, ifs1, 0⟩, ⟨t2, it2, ifs2, 0⟩] scope pos) 1 it acc env = (do
      standAt it2.pos
      match ← pyNext it with
      | none => pure (.done .next)
      | some v =>
        letOwnedTupleGo t2 it v
        assign t2 env v
        let mut ok := true
        for c in ifs2 do
          if ok then ok ← isTrue c env (eval c env)
        if ok then
          (do let _ ← call (.builtin "list.append") [acc, ← eval elt env])
        again (.compLoop (.ListComp elt [⟨t1, it1, ifs1, 0⟩, ⟨t2, it2, ifs2, 0⟩] scope pos) 1 it acc env)) := by rfl

section
variable {prog : Program} {w : World} {A : Around} {E : Value → Shared → Prop} {s : Shared} {h₀ : Heap} {L : Addr} {m : Str → Option Value} {env : Env}

/-- the inner clause's start -/
theorem compStart_in {elt t1 it1 t2 it2 : PySem.Expr} {ifs1 ifs2 : List PySem.Expr} {scope : Scope} {pos : Pos} {it acc : Value} {cenv : Env} {R : Result → Shared → Prop}
    (h0 : codeAny (model prog w) A (.compLoop (.ListComp elt [⟨t1, it1, ifs1, 0⟩, ⟨t2, it2, ifs2, 0⟩] scope pos) 1 it acc cenv) R s)
    (h : wpAny (model prog w) A (pyIter it) (fun it' s' => codeAny (model prog w) A (.compLoop (.ListComp elt [⟨t1, it1, ifs1, 0⟩, ⟨t2, it2, ifs2, 0⟩] scope pos) 1 it' acc cenv) R s') noE s) :
    codeAny (model prog w) A (.compStart (.ListComp elt [⟨t1, it1, ifs1, 0⟩, ⟨t2, it2, ifs2, 0⟩] scope pos) 1 it acc cenv) R s := by
  refine codeAny_of_tree ?_
  show wpAny _ _ ((compStart (.ListComp elt [⟨t1, it1, ifs1, 0⟩, ⟨t2, it2, ifs2, 0⟩] scope pos) 1 it acc cenv).onRaise (fun x => do noteFrame x cenv; standAt theWindowsPlace)) _ _ s
  refine wpAny_notedAt ?_
  unfold compStart
  show wpAny _ _ (ask >>= _) _ _ s
  refine wpAny_bind (wpAny_askSetting (wpAny_ite ?_))
  split
  · first
      | exact wpAny_bind (wpAny_pure (wpAny_pure (And.intro rfl h0)))
      | exact wpAny_pure (And.intro rfl h0)
  · first
      | exact wpAny_bind (wpAny_rule (wpAny_bind (wpAny_standAt (wpAny_bind (wpAny_mono h (fun it' s' h' => wpAny_pure (And.intro rfl h')) fun _ _ x => x.elim)))))
      | (refine wpAny_bind (wpAny_rule ?_); show wpAny _ _ (standAt it2.pos >>= _) _ _ s; exact wpAny_bind (wpAny_standAt (wpAny_bind (wpAny_mono h (fun it' s' h' => wpAny_pure (And.intro rfl h')) fun _ _ x => x.elim))))

theorem compStart_in' {elt t1 it1 t2 it2 : PySem.Expr} {ifs1 ifs2 : List PySem.Expr} {scope : Scope} {pos : Pos} {I : Addr} {acc : Value} {cenv : Env} {R : Result → Shared → Prop}
    (hself : ∀ (Q' : Value → Shared → Prop) (E' : Value → Shared → Prop), Q' (.ref I) s → wpAny (model prog w) A (pyIter (.ref I)) Q' E' s)
    (h : codeAny (model prog w) A (.compLoop (.ListComp elt [⟨t1, it1, ifs1, 0⟩, ⟨t2, it2, ifs2, 0⟩] scope pos) 1 (.ref I) acc cenv) R s) :
    codeAny (model prog w) A (.compStart (.ListComp elt [⟨t1, it1, ifs1, 0⟩, ⟨t2, it2, ifs2, 0⟩] scope pos) 1 (.ref I) acc cenv) R s := compStart_in h (hself _ _ h)

/-- the turns of the inner clause -/
theorem lc_loop_in {elt t1 it1 t2 it2 : PySem.Expr} {ifs1 ifs2 : List PySem.Expr} {scope : Scope} {pos : Pos} {I : Addr} {acc : Value} {cenv : Env} {R : Result → Shared → Prop} {news : List (Addr × Obj)}
    (J : Nat → List (Addr × Obj) → Prop) {n₀ : Nat} (F : Fr h₀ L s.heap m) (N : News h₀ L s.heap news) (hJ : J n₀ news)
    (turn : ∀ n news₁ h₁ tk₁, Fr h₀ L h₁ m → News h₀ L h₁ news₁ → J n news₁ →
      wpAny (model prog w) A (pyNext (.ref I)) (fun r s₁ => match r with
        | none => R (.ok .next) s₁
        | some v => wpAny (model prog w) A (assign t2 cenv v) (fun _ s₂ =>
          wpAny (model prog w) A (forIn ifs2 true fun c r => if r = true then do let ok ← isTrue c cenv (eval c cenv); pure (ForInStep.yield ok) else pure (ForInStep.yield r)) (fun ok s₃ =>
            if ok = true then wpAny (model prog w) A (eval elt cenv) (fun x s₄ =>
              wpAny (model prog w) A (call (.builtin "list.append") [acc, x]) (fun _ s₅ => LcStep h₀ L m s J n s₅) noE s₄) noE s₃
            else LcStep h₀ L m s J n s₃) noE s₂) noE s₁) noE { s with heap := h₁, toks := tk₁ })
    (ht : ∀ v, letOwnedTupleGo t2 (.ref I) v = pure () := by intro _; rfl) :
    codeAny (model prog w) A (.compLoop (.ListComp elt [⟨t1, it1, ifs1, 0⟩, ⟨t2, it2, ifs2, 0⟩] scope pos) 1 (.ref I) acc cenv) R s := by
  refine codeAny_loop rfl (fun n s' => ∃ h₁ tk₁ news₁, s' = { s with heap := h₁, toks := tk₁ } ∧ Fr h₀ L h₁ m ∧ News h₀ L h₁ news₁ ∧ J n news₁) ?_ n₀ ⟨s.heap, s.toks, news, rfl, F, N, hJ⟩
  rintro n s' ⟨h₁, tk₁, news₁, rfl, F₁, N₁, J₁⟩
  have fin : ∀ s₅, LcStep h₀ L m s J n s₅ → ∃ k, k < n ∧ ∃ h₁ tk₁ news₁, s₅ = { s with heap := h₁, toks := tk₁ } ∧ Fr h₀ L h₁ m ∧ News h₀ L h₁ news₁ ∧ J k news₁ := by
    rintro s₅ ⟨h', tk, news', n', rfl, F', N', hn, J'⟩
    exact ⟨n', hn, h', tk, news', rfl, F', N', J'⟩
  show wpAny _ A ((compTurn (.ListComp elt [⟨t1, it1, ifs1, 0⟩, ⟨t2, it2, ifs2, 0⟩] scope pos) 1 (.ref I) acc cenv).onRaise (fun x => do noteFrame x cenv; theTreesLotGoes x)) _ _ _
  refine wpAny_noted ?_
  rw [compTurn_in]
  refine wpAny_bind (wpAny_standAt (wpAny_bind (wpAny_mono (turn n news₁ h₁ tk₁ F₁ N₁ J₁) (fun r s₁ h1 => ?_) fun _ _ x => x.elim)))
  cases r with
  | none => exact wpAny_pure h1
  | some v =>
    refine wpAny_bind (wpAny_of_eq (ht v) ?_)
    refine wpAny_bind (wpAny_mono h1 (fun _ s₂ h2 => wpAny_bind (wpAny_mono h2 (fun ok s₃ h3 => ?_) fun _ _ x => x.elim)) fun _ _ x => x.elim)
    cases ok with
    | false => exact wpAny_pure ⟨rfl, fin _ h3⟩
    | true =>
      exact wpAny_bind (wpAny_bind (wpAny_mono h3 (fun x s₄ h₄ => wpAny_bind (wpAny_mono h₄ (fun _ s₅ h₅ => wpAny_pure (wpAny_pure ⟨rfl, fin _ h₅⟩)) fun _ _ x => x.elim)) fun _ _ x => x.elim))

/-- the turns of the outer clause -/
theorem lc_loop_out {elt t1 it1 t2 it2 : PySem.Expr} {ifs1 ifs2 : List PySem.Expr} {scope : Scope} {pos : Pos} {I : Addr} {acc : Value} {cenv : Env} {R : Result → Shared → Prop} {news : List (Addr × Obj)}
    (J : Nat → List (Addr × Obj) → Prop) {n₀ : Nat} (F : Fr h₀ L s.heap m) (N : News h₀ L s.heap news) (hJ : J n₀ news)
    (turn : ∀ n news₁ h₁ tk₁, Fr h₀ L h₁ m → News h₀ L h₁ news₁ → J n news₁ →
      wpAny (model prog w) A (pyNext (.ref I)) (fun r s₁ => match r with
        | none => R (.ok .next) s₁
        | some v => wpAny (model prog w) A (assign t1 cenv v) (fun _ s₂ =>
          wpAny (model prog w) A (forIn ifs1 true fun c r => if r = true then do let ok ← isTrue c cenv (eval c cenv); pure (ForInStep.yield ok) else pure (ForInStep.yield r)) (fun ok s₃ =>
            if ok = true then wpAny (model prog w) A (eval it2 cenv) (fun x s₄ => wpAny (model prog w) A (pyIter x) (fun it' s₅ =>
              codeAny (model prog w) A (.compStart (.ListComp elt [⟨t1, it1, ifs1, 0⟩, ⟨t2, it2, ifs2, 0⟩] scope pos) 1 it' acc cenv) (fun r s₆ => match r with | .ok _ => LcStep h₀ L m s J n s₆ | .error _ => False) s₅) noE s₄) noE s₃
            else LcStep h₀ L m s J n s₃) noE s₂) noE s₁) noE { s with heap := h₁, toks := tk₁ })
    (ht : ∀ v, letOwnedTupleGo t1 (.ref I) v = pure () := by intro _; rfl) (hs : ∀ x, foldedSetIterable it2 cenv x = pure x := by intro _; rfl) :
    codeAny (model prog w) A (.compLoop (.ListComp elt [⟨t1, it1, ifs1, 0⟩, ⟨t2, it2, ifs2, 0⟩] scope pos) 0 (.ref I) acc cenv) R s := by
  refine codeAny_loop rfl (fun n s' => ∃ h₁ tk₁ news₁, s' = { s with heap := h₁, toks := tk₁ } ∧ Fr h₀ L h₁ m ∧ News h₀ L h₁ news₁ ∧ J n news₁) ?_ n₀ ⟨s.heap, s.toks, news, rfl, F, N, hJ⟩
  rintro n s' ⟨h₁, tk₁, news₁, rfl, F₁, N₁, J₁⟩
  have fin : ∀ s₅, LcStep h₀ L m s J n s₅ → ∃ k, k < n ∧ ∃ h₁ tk₁ news₁, s₅ = { s with heap := h₁, toks := tk₁ } ∧ Fr h₀ L h₁ m ∧ News h₀ L h₁ news₁ ∧ J k news₁ := by
    rintro s₅ ⟨h', tk, news', n', rfl, F', N', hn, J'⟩
    exact ⟨n', hn, h', tk, news', rfl, F', N', J'⟩
  show wpAny _ A ((compTurn (.ListComp elt [⟨t1, it1, ifs1, 0⟩, ⟨t2, it2, ifs2, 0⟩] scope pos) 0 (.ref I) acc cenv).onRaise (fun x => do noteFrame x cenv; theTreesLotGoes x)) _ _ _
  refine wpAny_noted ?_
  rw [compTurn_out]
  refine wpAny_bind (wpAny_standAt (wpAny_bind (wpAny_mono (turn n news₁ h₁ tk₁ F₁ N₁ J₁) (fun r s₁ h1 => ?_) fun _ _ x => x.elim)))
  cases r with
  | none => exact wpAny_pure h1
  | some v =>
    refine wpAny_bind (wpAny_of_eq (ht v) ?_)
    refine wpAny_bind (wpAny_mono h1 (fun _ s₂ h2 => wpAny_bind (wpAny_mono h2 (fun ok s₃ h3 => ?_) fun _ _ x => x.elim)) fun _ _ x => x.elim)
    cases ok with
    | false => exact wpAny_pure ⟨rfl, fin _ h3⟩
    | true =>
      simp only [if_true] at h3 ⊢
      refine wpAny_bind (wpAny_mono h3 (fun x s₄ h4 => ?_) fun _ _ x => x.elim)
      refine wpAny_bind (wpAny_standAt (wpAny_bind (wpAny_of_eq (hs x) ?_)))
      refine wpAny_bind (wpAny_holding (wpAny_mono h4 (fun it' s₅ h5 => ?_) fun _ _ x => x.elim))
      refine wpAny_bind (wpAny_runOwn (h := none) (codeAny_mono h5 fun r s₆ h6 => ?_))
      cases r with
      | error e => exact h6.elim
      | ok f => exact wpAny_pure ⟨rfl, fin _ h6⟩
end
end
section
open PyProof.Rows.LCg (NsObj ns_obj)
section
variable {prog : Program} {w : World} {A : Around} {E : Value → Shared → Prop} {s : Shared} {h₀ : Heap} {L : Addr} {m : Str → Option Value} {env : Env} {news : List (Addr × Obj)}
theorem For_G {Q : Flow → Shared → Prop} {target : PySem.Expr} {I : Addr} {body : List Stmt}
    (J : Nat → (Str → Option Value) → List (Addr × Obj) → Prop) {n₀ : Nat} (F : Fr h₀ L s.heap m) (N : News h₀ L s.heap news) (hJ : J n₀ m news)
    (turn : ∀ (J' : Nat → (Str → Option Value) → List (Addr × Obj) → Prop) (Q' : Flow → Shared → Prop), (∀ n m news, J n m news → J' n m news) → (∀ f s', Q f s' → Q' f s') → ∀ n m₁ news₁ h₁ tk₁, Fr h₀ L h₁ m₁ → News h₀ L h₁ news₁ → J n m₁ news₁ →
      wpAny (model prog w) A (pyNext (.ref I)) (fun r s₁ => match r with
        | none => Q' .next s₁
        | some v => wpAny (model prog w) A (assign target env v) (fun _ s₂ => wpAny (model prog w) A (execs body env) (WhileStep2 h₀ L s J' Q' n) E s₂) E s₁) E { s with heap := h₁, toks := tk₁ })
    (hE : PassesOwn (model prog w) A env E := by passes_own) (ht : ∀ v, letOwnedTupleGo target (.ref I) v = pure () := by intro _; rfl) :
    codeAny (model prog w) A (.forLoop target (.ref I) body [] env) (fun r s' => match r with | .ok f => Q f s' | .error e => cameBackBy (model prog w) A env E e s') s :=
  For_led J F N hJ (turn J Q (fun _ _ _ h => h) (fun _ _ h => h)) hE ht
theorem lc_loop_G {elt target iter : PySem.Expr} {ifs : List PySem.Expr} {scope : Scope} {pos : Pos} {I : Addr} {acc : Value} {cenv : Env} {R : Result → Shared → Prop}
    (J : Nat → List (Addr × Obj) → Prop) {n₀ : Nat} (F : Fr h₀ L s.heap m) (N : News h₀ L s.heap news) (hJ : J n₀ news)
    (turn : ∀ (J' : Nat → List (Addr × Obj) → Prop) (R' : Result → Shared → Prop), (∀ n news, J n news → J' n news) → (∀ r s', R r s' → R' r s') → ∀ n news₁ h₁ tk₁, Fr h₀ L h₁ m → News h₀ L h₁ news₁ → J n news₁ →
      wpAny (model prog w) A (pyNext (.ref I)) (fun r s₁ => match r with
        | none => R' (.ok .next) s₁
        | some v => wpAny (model prog w) A (assign target cenv v) (fun _ s₂ =>
          wpAny (model prog w) A (forIn ifs true fun c r => if r = true then do let ok ← isTrue c cenv (eval c cenv); pure (ForInStep.yield ok) else pure (ForInStep.yield r)) (fun ok s₃ =>
            if ok = true then wpAny (model prog w) A (eval elt cenv) (fun x s₄ =>
              wpAny (model prog w) A (call (.builtin "list.append") [acc, x]) (fun _ s₅ => LcStep h₀ L m s J' n s₅) noE s₄) noE s₃
            else LcStep h₀ L m s J' n s₃) noE s₂) noE s₁) noE { s with heap := h₁, toks := tk₁ })
    (ht : ∀ v, letOwnedTupleGo target (.ref I) v = pure () := by intro _; rfl) :
    codeAny (model prog w) A (.compLoop (.ListComp elt [⟨target, iter, ifs, 0⟩] scope pos) 0 (.ref I) acc cenv) R s :=
  lc_loop J F N hJ (turn J R (fun _ _ h => h) (fun _ _ h => h)) ht
theorem lc_loop_in_G {elt t1 it1 t2 it2 : PySem.Expr} {ifs1 ifs2 : List PySem.Expr} {scope : Scope} {pos : Pos} {I : Addr} {acc : Value} {cenv : Env} {R : Result → Shared → Prop}
    (J : Nat → List (Addr × Obj) → Prop) {n₀ : Nat} (F : Fr h₀ L s.heap m) (N : News h₀ L s.heap news) (hJ : J n₀ news)
    (turn : ∀ (J' : Nat → List (Addr × Obj) → Prop) (R' : Result → Shared → Prop), (∀ n news, J n news → J' n news) → (∀ r s', R r s' → R' r s') → ∀ n news₁ h₁ tk₁, Fr h₀ L h₁ m → News h₀ L h₁ news₁ → J n news₁ →
      wpAny (model prog w) A (pyNext (.ref I)) (fun r s₁ => match r with
        | none => R' (.ok .next) s₁
        | some v => wpAny (model prog w) A (assign t2 cenv v) (fun _ s₂ =>
          wpAny (model prog w) A (forIn ifs2 true fun c r => if r = true then do let ok ← isTrue c cenv (eval c cenv); pure (ForInStep.yield ok) else pure (ForInStep.yield r)) (fun ok s₃ =>
            if ok = true then wpAny (model prog w) A (eval elt cenv) (fun x s₄ =>
              wpAny (model prog w) A (call (.builtin "list.append") [acc, x]) (fun _ s₅ => LcStep h₀ L m s J' n s₅) noE s₄) noE s₃
            else LcStep h₀ L m s J' n s₃) noE s₂) noE s₁) noE { s with heap := h₁, toks := tk₁ })
    (ht : ∀ v, letOwnedTupleGo t2 (.ref I) v = pure () := by intro _; rfl) :
    codeAny (model prog w) A (.compLoop (.ListComp elt [⟨t1, it1, ifs1, 0⟩, ⟨t2, it2, ifs2, 0⟩] scope pos) 1 (.ref I) acc cenv) R s :=
  lc_loop_in J F N hJ (turn J R (fun _ _ h => h) (fun _ _ h => h)) ht
theorem lc_loop_out_G {elt t1 it1 t2 it2 : PySem.Expr} {ifs1 ifs2 : List PySem.Expr} {scope : Scope} {pos : Pos} {I : Addr} {acc : Value} {cenv : Env} {R : Result → Shared → Prop}
    (J : Nat → List (Addr × Obj) → Prop) {n₀ : Nat} (F : Fr h₀ L s.heap m) (N : News h₀ L s.heap news) (hJ : J n₀ news)
    (turn : ∀ (J' : Nat → List (Addr × Obj) → Prop) (R' : Result → Shared → Prop), (∀ n news, J n news → J' n news) → (∀ r s', R r s' → R' r s') → ∀ n news₁ h₁ tk₁, Fr h₀ L h₁ m → News h₀ L h₁ news₁ → J n news₁ →
      wpAny (model prog w) A (pyNext (.ref I)) (fun r s₁ => match r with
        | none => R' (.ok .next) s₁
        | some v => wpAny (model prog w) A (assign t1 cenv v) (fun _ s₂ =>
          wpAny (model prog w) A (forIn ifs1 true fun c r => if r = true then do let ok ← isTrue c cenv (eval c cenv); pure (ForInStep.yield ok) else pure (ForInStep.yield r)) (fun ok s₃ =>
            if ok = true then wpAny (model prog w) A (eval it2 cenv) (fun x s₄ => wpAny (model prog w) A (pyIter x) (fun it' s₅ =>
              codeAny (model prog w) A (.compStart (.ListComp elt [⟨t1, it1, ifs1, 0⟩, ⟨t2, it2, ifs2, 0⟩] scope pos) 1 it' acc cenv) (fun r s₆ => match r with | .ok _ => LcStep h₀ L m s J' n s₆ | .error _ => False) s₅) noE s₄) noE s₃
            else LcStep h₀ L m s J' n s₃) noE s₂) noE s₁) noE { s with heap := h₁, toks := tk₁ })
    (ht : ∀ v, letOwnedTupleGo t1 (.ref I) v = pure () := by intro _; rfl) (hs : ∀ x, foldedSetIterable it2 cenv x = pure x := by intro _; rfl) :
    codeAny (model prog w) A (.compLoop (.ListComp elt [⟨t1, it1, ifs1, 0⟩, ⟨t2, it2, ifs2, 0⟩] scope pos) 0 (.ref I) acc cenv) R s :=
  lc_loop_out J F N hJ (turn J R (fun _ _ h => h) (fun _ _ h => h)) ht hs
end
section
variable {s : Shared} {h₀ : Heap} {L : Addr} {m : Str → Option Value}
theorem lcs {J : Nat → List (Addr × Obj) → Prop} {n n' : Nat} {h' : Heap} {tk : Nat} {news₂ : List (Addr × Obj)} (F : Fr h₀ L h' m) (N : News h₀ L h' news₂) (hn : n' < n) (hJ : J n' news₂) :
    LcStep h₀ L m s J n { s with heap := h', toks := tk } := ⟨h', tk, news₂, n', rfl, F, N, hn, hJ⟩
theorem lcd {C D : Addr} {Fin : List Value → Nat → List (Addr × Obj) → Prop} {f : Flow} {h : Heap} {tk n : Nat} {ys : List Value} {oC : Obj} {mc : Str → Option Value} {news' : List (Addr × Obj)} (F : Fr h₀ L h m) (N : News h₀ L h ((D, listOf ys.toArray n) :: (C, oC) :: news')) (hC : NsObj oC mc) (off : ∀ p ∈ news', p.1 ≠ C ∧ p.1 ≠ D) (hCD : C ≠ D) (fin : Fin ys n news') :
    LcDone h₀ L m C D s Fin (.ok f) { s with heap := h, toks := tk } := ⟨h, tk, ys, n, oC, mc, news', rfl, F, N, hC, off, hCD, fin⟩
end
end
section
/-- pairs of an address and the key that stands there -/
noncomputable def PairIn (l : List (Addr × Obj)) (q : Addr × Key) : Prop := ∃ o, (q.1, o) ∈ l ∧ keyObj o q.2
theorem PairIn.isKey {h₀ h : Heap} {L : Addr} {l : List (Addr × Obj)} {q : Addr × Key} (N : News h₀ L h l) (hk : PairIn l q) : IsKey h q.1 q.2 := by
  obtain ⟨o, hm, d, n, sl, t1, t2, t3, rfl⟩ := hk
  exact ⟨d, n, sl, t1, t2, t3, (N _ hm).1⟩
theorem PairIn.sub {l l' : List (Addr × Obj)} {q : Addr × Key} (hs : ∀ p ∈ l, p ∈ l') (hk : PairIn l q) : PairIn l' q := by
  obtain ⟨o, hm, h⟩ := hk
  exact ⟨o, hs _ hm, h⟩
/-- lists of key tuples as data -/
noncomputable abbrev keyD (k : Key) : PyData := .tuple [.int k.1, .int k.2.1, .int k.2.2]
noncomputable abbrev pvs (ps : List (Addr × Key)) : List Value := ps.map fun q => Value.ref q.1
theorem pvs_kvs (adr : Key → Addr) (ks : List Key) : kvs adr ks = pvs (ks.map fun k => (adr k, k)) := by simp [kvs, pvs]
theorem reads_key {h : Heap} {a : Addr} {k : Key} (hk : IsKey h a k) : Reads h (.ref a) (keyD k) [] := by
  obtain ⟨d, n, sl, t1, t2, t3, h⟩ := hk
  exact reads_tuple_at h rfl rfl (.cons (.int _ _) (.cons (as := []) (bs := []) (.int _ _) (.cons (as := []) (bs := []) (.int _ _) .nil)))
theorem reads_keys {h : Heap} : ∀ (ps : List (Addr × Key)), (∀ q ∈ ps, IsKey h q.1 q.2) → ReadsAll h (pvs ps) (ps.map fun q => keyD q.2) []
  | [], _ => .nil
  | q :: r, hk => .cons (as := []) (bs := []) (reads_key (hk q (.head _))) (reads_keys r fun q' hq => hk q' (.tail _ hq))
theorem keyD_lay : ∀ (ks : List Key), PyData.canLayAll0 (ks.map keyD) = true
  | [] => by simp [PyData.canLayAll0]
  | k :: r => by
    rw [List.map_cons]
    simp only [PyData.canLayAll0, PyData.canLay0, keyD_lay r, Bool.and_true]
theorem keyD_depth : ∀ (ks : List Key), PyData.depthAll (ks.map keyD) ≤ 1
  | [] => by simp [PyData.depthAll]
  | k :: r => by
    have := keyD_depth r
    rw [List.map_cons]
    simp only [PyData.depthAll, PyData.depth] at this ⊢
    lia
theorem keyD_shaped (ks : List Key) : SeqAt.shaped (.list (ks.map keyD)) = true := by
  have h1 := keyD_lay ks
  have h2 := keyD_depth ks
  unfold SeqAt.shaped
  simp only [PyData.canLay0, PyData.depth, h1, Bool.true_and]
  exact decide_eq_true (by lia)
theorem keyD_eqv : ∀ (ks ls : List Key), PyData.eqvAll (ks.map keyD) (ls.map keyD) = decide (ks = ls)
  | [], [] => by simp [PyData.eqvAll]
  | [], _ :: _ => by simp [PyData.eqvAll]
  | _ :: _, [] => by simp [PyData.eqvAll]
  | (a, b, c) :: r, (d, e, f) :: t => by
    rw [List.map_cons, List.map_cons]
    simp only [PyData.eqvAll, PyData.eqv, keyD_eqv r t, Bool.and_true]
    by_cases h1 : a = d <;> by_cases h2 : b = e <;> by_cases h3 : c = f <;> by_cases h4 : r = t <;> simp [h1, h2, h3, h4]

section
variable {prog : Program} {w : World} {A : Around} {E : Value → Shared → Prop} {s : Shared}
/-- == and != of two lists of key tuples -/
theorem keys_eq {a b : Addr} {ps qs : List (Addr × Key)} {Q : Value → Shared → Prop} (ha : s.heap.IsList a (pvs ps).toArray) (hb : s.heap.IsList b (pvs qs).toArray)
    (kp : ∀ q ∈ ps, IsKey s.heap q.1 q.2) (kq : ∀ q ∈ qs, IsKey s.heap q.1 q.2) (hu : A.units + 64 < cLine) (h : Q (.bool (decide (ps.map (·.2) = qs.map (·.2)))) s) :
    wpAny (model prog w) A (compareOp .Eq (.ref a) (.ref b)) Q E s := by
  obtain ⟨oa, ga, ca, na, da⟩ := ha
  obtain ⟨ob, gb, cb, nb, db⟩ := hb
  refine eq_dataH (reads_list_at ga ca da (reads_keys ps kp)) (reads_list_at gb cb db (reads_keys qs kq)) ?_ ?_ hu ?_
  · have := keyD_shaped (ps.map (·.2)); rwa [List.map_map] at this
  · have := keyD_shaped (qs.map (·.2)); rwa [List.map_map] at this
  · have := keyD_eqv (ps.map (·.2)) (qs.map (·.2))
    rw [List.map_map, List.map_map] at this
    show Q (.bool (PyData.eqvAll _ _)) s
    rw [show (fun q : Addr × Key => keyD q.2) = keyD ∘ (·.2) from rfl, this]; exact h
theorem keys_ne {a b : Addr} {ps qs : List (Addr × Key)} {Q : Value → Shared → Prop} (ha : s.heap.IsList a (pvs ps).toArray) (hb : s.heap.IsList b (pvs qs).toArray)
    (kp : ∀ q ∈ ps, IsKey s.heap q.1 q.2) (kq : ∀ q ∈ qs, IsKey s.heap q.1 q.2) (hu : A.units + 64 < cLine) (h : Q (.bool (!decide (ps.map (·.2) = qs.map (·.2)))) s) :
    wpAny (model prog w) A (compareOp .NotEq (.ref a) (.ref b)) Q E s := by
  obtain ⟨oa, ga, ca, na, da⟩ := ha
  obtain ⟨ob, gb, cb, nb, db⟩ := hb
  refine ne_dataH (reads_list_at ga ca da (reads_keys ps kp)) (reads_list_at gb cb db (reads_keys qs kq)) ?_ ?_ hu ?_
  · have := keyD_shaped (ps.map (·.2)); rwa [List.map_map] at this
  · have := keyD_shaped (qs.map (·.2)); rwa [List.map_map] at this
  · have := keyD_eqv (ps.map (·.2)) (qs.map (·.2))
    rw [List.map_map, List.map_map] at this
    show Q (.bool (!PyData.eqvAll _ _)) s
    rw [show (fun q : Addr × Key => keyD q.2) = keyD ∘ (·.2) from rfl, this]; exact h
end
end
section
/-- what the sort's tree of questions answers, the answers told -/
noncomputable def kasRun {α : Type} (c : Nat → Nat → Bool) : KasT α → α
  | .ret a => a
  | .ask i j k => kasRun c (k (c i j))
noncomputable def kasIn {α : Type} (n : Nat) : KasT α → Bool
  | .ret _ => true
  | .ask i j k => decide (i < n) && decide (j < n) && decide (i ≠ j) && kasIn n (k true) && kasIn n (k false)
theorem kasRun_wp {α : Type} {n : Nat} {cmp : Nat → Nat → (Bool → Shared → Prop) → Shared → Prop} {c : Nat → Nat → Bool} {s : Shared} (hc : ∀ i j (C : Bool → Shared → Prop), i < n → j < n → i ≠ j → C (c i j) s → cmp i j C s) {Q : α → Shared → Prop} :
    ∀ (t : KasT α), kasIn n t = true → Q (kasRun c t) s → t.kasWp cmp Q s
  | .ret _, _, h => h
  | .ask i j k, hi, h => by
    simp only [kasIn, Bool.and_eq_true, decide_eq_true_eq] at hi
    refine hc i j _ hi.1.1.1.1 hi.1.1.1.2 hi.1.1.2 ?_
    cases hb : c i j with
    | true => exact kasRun_wp hc (k true) hi.1.2 (by simpa only [kasRun, hb] using h)
    | false => exact kasRun_wp hc (k false) hi.2 (by simpa only [kasRun, hb] using h)

/-- three things: lt 0 1, lt 0 2, lt 1 2 -/
noncomputable def cB (x y z : Bool) (i j : Nat) : Bool := match i, j with
  | 0, 1 => x | 1, 0 => !x | 0, 2 => y | 2, 0 => !y | 1, 2 => z | 2, 1 => !z | _, _ => false
theorem kas3_in : kasIn 3 (kas_sort 3) = true := by decide +kernel
noncomputable def perm3 (x y z : Bool) : List Nat := (kasRun (cB x y z) (kas_sort 3)).toList
theorem perm3_is : perm3 true true true = [0, 1, 2] ∧ perm3 true true false = [0, 2, 1] ∧ perm3 true false false = [2, 0, 1] ∧ perm3 false true true = [1, 0, 2] ∧ perm3 false false true = [1, 2, 0] ∧ perm3 false false false = [2, 1, 0] := by decide +kernel
theorem perm3_lt : ∀ x y z : Bool, ((perm3 x y z).all fun i => decide (i < 3)) = true := by decide +kernel
noncomputable def sort3 (a b c : Key) : List Key := (perm3 (keyLt a b) (keyLt a c) (keyLt b c)).map fun i => [a, b, c].getD i (0, 0, 0)

section
variable {prog : Program} {w : World} {A : Around} {E : Value → Shared → Prop} {s : Shared}
theorem lex_int3 {x1 x2 x3 y1 y2 y3 : Int} {t1 t2 t3 u1 u2 u3 : Tok} {fin : Bool} {Q : Bool → Shared → Prop} (hfin : fin = false) (h : Q (keyLt (x1, x2, x3) (y1, y2, y3)) s) :
    KatLex prog w A true fin Q [(.int x1 t1, .int y1 u1), (.int x2 t2, .int y2 u2), (.int x3 t3, .int y3 u3)] 0 s := by
  unfold keyLt at h
  refine kat_cons (wpAny_eqBool_int ?_)
  by_cases h1 : x1 = y1
  · rw [show (x1 == y1) = true from by simp [h1]]
    refine kat_yes (kat_cons (wpAny_eqBool_int ?_))
    by_cases h2 : x2 = y2
    · rw [show (x2 == y2) = true from by simp [h2]]
      refine kat_yes (kat_cons (wpAny_eqBool_int ?_))
      by_cases h3 : x3 = y3
      · rw [show (x3 == y3) = true from by simp [h3]]
        refine kat_yes (kat_nil ?_)
        rw [hfin]
        simpa [h1, h2, h3] using h
      · rw [show (x3 == y3) = false from by simp [h3]]
        refine kat_no (kat_one _ _ (cmp_ofLt (lt_int ?_)))
        show Q _ s
        simpa [h1, h2] using h
    · rw [show (x2 == y2) = false from by simp [h2]]
      refine kat_no (kat_one _ _ (cmp_ofLt (lt_int ?_)))
      show Q _ s
      simpa [h1, h2] using h
  · rw [show (x1 == y1) = false from by simp [h1]]
    refine kat_no (oneLt_int ?_)
    simpa [h1] using h

theorem key_keyLt {a b : Addr} {j k : Key} {Q : Bool → Shared → Prop} (ha : IsKey s.heap a j) (hb : IsKey s.heap b k) (h : Q (keyLt j k) s) :
    wpAny (model prog w) A (keyLt' (tuples' true) (.ref a) (.ref b)) Q E s := by
  refine goal_G fun GG hGG => ?_
  obtain ⟨d1, n1, sl1, t1, t2, t3, ha⟩ := ha
  refine hGG ?_
  clear hGG GG
  refine goal_G fun GG hGG => ?_
  obtain ⟨d2, n2, sl2, u1, u2, u3, hb⟩ := hb
  refine hGG ?_
  clear hGG GG
  exact kat_lt ha rfl hb rfl (lex_int3 rfl h)

theorem keyLt_not {a b : Key} (h : a ≠ b) : keyLt b a = !keyLt a b := by
  refine goal_G fun GG hGG => ?_
  obtain ⟨a1, a2, a3⟩ := a
  refine hGG ?_
  clear hGG GG
  refine goal_G fun GG hGG => ?_
  obtain ⟨b1, b2, b3⟩ := b
  refine hGG ?_
  clear hGG GG
  unfold keyLt
  rw [← decide_not]
  congr 1
  simp only [ne_eq, Prod.mk.injEq] at h
  apply propext
  dsimp only
  lia

theorem sorted3 {h₀ : Heap} {L l : Addr} {m : Str → Option Value} {news : List (Addr × Obj)} {a b c : Addr × Key} {Q : Value → Shared → Prop} (F : Fr h₀ L s.heap m) (N : News h₀ L s.heap news)
    (hl : s.heap.IsList l [Value.ref a.1, .ref b.1, .ref c.1].toArray) (ka : ∃ o, (a.1, o) ∈ news ∧ keyObj o a.2) (kb : ∃ o, (b.1, o) ∈ news ∧ keyObj o b.2) (kc : ∃ o, (c.1, o) ∈ news ∧ keyObj o c.2)
    (hab : a.2 ≠ b.2) (hac : a.2 ≠ c.2) (hbc : b.2 ≠ c.2)
    (h : ∀ D n h', Fr h₀ L h' m → News h₀ L h' ((D, listOf (pvs ((perm3 (keyLt a.2 b.2) (keyLt a.2 c.2) (keyLt b.2 c.2)).map fun i => [a, b, c].getD i (0, (0, 0, 0)))).toArray n) :: news) → (∀ q ∈ news, q.1 < D) → Q (.ref D) { s with heap := h' }) :
    wpAny (model prog w) A (call (.builtin "sorted") [.ref l]) Q E s := by
  refine kat_sorted F N hl (by simp) (by simp) ?_
  intro D e1 h' F' N' hlt
  have isk : ∀ q : Addr × Key, (∃ o, (q.1, o) ∈ news ∧ keyObj o q.2) → IsKey h' q.1 q.2 := fun q ⟨o, hm, d, n, sl, t1, t2, t3, e⟩ => ⟨d, n, sl, t1, t2, t3, by subst e; exact (N' _ (.tail _ hm)).1⟩
  have ia := isk a ka
  have ib := isk b kb
  have ic := isk c kc
  refine goal_G fun GG hGG => ?_
  obtain ⟨_, ma, _, _, _, _, _, _, rfl⟩ := ka
  refine hGG ?_
  clear hGG GG
  refine goal_G fun GG hGG => ?_
  obtain ⟨_, mb, _, _, _, _, _, _, rfl⟩ := kb
  refine hGG ?_
  clear hGG GG
  refine goal_G fun GG hGG => ?_
  obtain ⟨_, mc, _, _, _, _, _, _, rfl⟩ := kc
  refine hGG ?_
  clear hGG GG
  refine kat_kind (T := .type "int") (KatTups.cons (N' _ (.tail _ ma)).1 rfl rfl rfl (KatTups.cons (N' _ (.tail _ mb)).1 rfl rfl rfl (KatTups.cons (N' _ (.tail _ mc)).1 rfl rfl rfl KatTups.nil))) (by simp) ?_ rfl ?_
  · intro v hv
    simp only [List.mem_cons, List.not_mem_nil, or_false] at hv
    rcases hv with rfl | rfl | rfl <;> exact .now
  rw [show (Value.type "int" != Value.type "tuple") = true from by decide]
  refine kasRun_wp (n := 3) (c := cB (keyLt a.2 b.2) (keyLt a.2 c.2) (keyLt b.2 c.2)) ?_ _ kas3_in ?_
  · intro i j C hi hj hij hC
    have ei : i = 0 ∨ i = 1 ∨ i = 2 := by lia
    have ej : j = 0 ∨ j = 1 ∨ j = 2 := by lia
    rcases ei with rfl | rfl | rfl <;> rcases ej with rfl | rfl | rfl
    all_goals first
      | exact absurd rfl hij
      | exact key_keyLt ia ib hC
      | exact key_keyLt ia ic hC
      | exact key_keyLt ib ic hC
      | exact key_keyLt ib ia (by rw [keyLt_not hab]; exact hC)
      | exact key_keyLt ic ia (by rw [keyLt_not hac]; exact hC)
      | exact key_keyLt ic ib (by rw [keyLt_not hbc]; exact hC)
  · refine KasFin.intro F' N' (UpdF.head (fun p hp => Nat.ne_of_lt (hlt p hp))) (fun h'' c' F'' N'' => h D c' h'' F'' ?_ hlt)
    have e : (kasRun (cB (keyLt a.2 b.2) (keyLt a.2 c.2) (keyLt b.2 c.2)) (kas_sort 3)).toList.map (fun i => [Value.ref a.1, .ref b.1, .ref c.1].getD i Value.none) = pvs ((perm3 (keyLt a.2 b.2) (keyLt a.2 c.2) (keyLt b.2 c.2)).map fun i => [a, b, c].getD i (0, (0, 0, 0))) := by
      rw [show pvs ((perm3 (keyLt a.2 b.2) (keyLt a.2 c.2) (keyLt b.2 c.2)).map fun i => [a, b, c].getD i (0, (0, 0, 0))) = (perm3 (keyLt a.2 b.2) (keyLt a.2 c.2) (keyLt b.2 c.2)).map (fun i => Value.ref ([a, b, c].getD i (0, (0, 0, 0))).1) from by simp [pvs]]
      refine List.map_congr_left fun i hi => ?_
      have hi3 : i < 3 := of_decide_eq_true (List.all_eq_true.mp (perm3_lt _ _ _) i hi)
      have ei : i = 0 ∨ i = 1 ∨ i = 2 := by lia
      rcases ei with rfl | rfl | rfl <;> rfl
    rw [← e]
    exact N''
end
end
section
noncomputable def keysLt : List Key → List Key → Bool
  | [], [] => false
  | [], _ :: _ => true
  | _ :: _, [] => false
  | x :: xs, y :: ys => if x = y then keysLt xs ys else keyLt x y

open PySem.SeqAt (EqAt eqAt_reads)
theorem key_eqAt {A : Around} {s : Shared} {a b : Addr} {j k : Key} (ha : IsKey s.heap a j) (hb : IsKey s.heap b k) (hu : A.units + 64 < cLine) : EqAt A s (.ref a) (.ref b) (decide (j = k)) := fun prog w E Q hq => by
  refine eqAt_reads (keyD j) (keyD k) A s _ _ _ _ (reads_key ha) (reads_key hb) (by simp [PyData.canLay0, PyData.canLayAll0]) (by simp [PyData.canLay0, PyData.canLayAll0]) ?_ prog w E Q ?_
  · simp only [PyData.depth, PyData.depthAll]; lia
  · have := keyD_eqv [j] [k]
    simp only [List.map_cons, List.map_nil, PyData.eqvAll, Bool.and_true, List.cons.injEq, and_true] at this
    rw [this]; exact hq

section
variable {prog : Program} {w : World} {A : Around} {E : Value → Shared → Prop} {s : Shared}
theorem lt_loop {a b : Addr} {oa ob : Obj} {ps qs : List (Addr × Key)} {na nb : Nat} {R : Result → Shared → Prop} (ha : s.heap.get? a = some oa) (da : oa.data = .seq (pvs ps).toArray na) (hb : s.heap.get? b = some ob) (db : ob.data = .seq (pvs qs).toArray nb)
    (kp : ∀ q ∈ ps, IsKey s.heap q.1 q.2) (kq : ∀ q ∈ qs, IsKey s.heap q.1 q.2) (hl : ps.length = qs.length) (hu : A.units + 66 < cLine) :
    ∀ (k i : Nat), ps.length - i = k → i ≤ ps.length → R (.ok (.ret (.bool (keysLt ((ps.drop i).map (·.2)) ((qs.drop i).map (·.2)))))) s →
    codeAny (model prog w) A (.builtin "list.__eq__.loop" ⟨[.ref a, .ref b, rawInt i, rawInt 0], []⟩) R s := by
  intro k
  induction k with
  | zero =>
    intro i hk hi h
    refine codeAny_builtin PySem.MeetsSeq3.entry_eq_loop ?_
    rw [Around.under_plainId PySem.MeetsSeq3.plain_eq_loop _]
    show wpAny _ _ (Builtin.List.listItems (.ref a) >>= _) _ _ s
    refine wpAny_bind (wpAny_listItems ha da (wpAny_bind (wpAny_listItems hb db ?_)))
    have e1 : (pvs ps).toArray[(i : Int).toNat]? = none := by simp; lia
    have e2 : (pvs qs).toArray[(i : Int).toNat]? = none := by simp; lia
    rw [e1, e2]
    show wpAny _ _ (Builtin.List.listItems (.ref a) >>= _) _ _ s
    refine wpAny_bind (wpAny_listItems ha da (wpAny_bind (wpAny_listItems hb db (wpAny_pure ?_))))
    have d1 : ps.drop i = [] := List.drop_eq_nil_of_le (by lia)
    have d2 : qs.drop i = [] := List.drop_eq_nil_of_le (by lia)
    rw [d1, d2] at h
    show R (.ok (.ret (.bool (decide ((pvs ps).toArray.size < (pvs qs).toArray.size))))) s
    rw [show decide ((pvs ps).toArray.size < (pvs qs).toArray.size) = false from decide_eq_false (by simp [hl])]
    exact h
  | succ k ih =>
    intro i hk hi h
    have hip : i < ps.length := by lia
    have hiq : i < qs.length := by lia
    refine codeAny_builtin PySem.MeetsSeq3.entry_eq_loop ?_
    rw [Around.under_plainId PySem.MeetsSeq3.plain_eq_loop _]
    show wpAny _ _ (Builtin.List.listItems (.ref a) >>= _) _ _ s
    refine wpAny_bind (wpAny_listItems ha da (wpAny_bind (wpAny_listItems hb db ?_)))
    have e1 : (pvs ps).toArray[(i : Int).toNat]? = some (.ref ps[i].1) := by simp [hip]
    have e2 : (pvs qs).toArray[(i : Int).toNat]? = some (.ref qs[i].1) := by simp [hiq]
    rw [e1, e2]
    dsimp only
    have kpi : IsKey s.heap ps[i].1 ps[i].2 := kp _ (List.getElem_mem hip)
    have kqi : IsKey s.heap qs[i].1 qs[i].2 := kq _ (List.getElem_mem hiq)
    rw [List.drop_eq_getElem_cons hip, List.drop_eq_getElem_cons hiq, List.map_cons, List.map_cons, keysLt] at h
    refine wpAny_bind (key_eqAt (A := A.in1) kpi kqi (by show A.units + 1 + 64 < cLine; lia) prog w _ _ ?_)
    by_cases hq : ps[i].2 = qs[i].2
    · rw [decide_eq_true hq]
      rw [if_pos hq] at h
      simp only [if_true]
      refine wpAny_pure ⟨plainId_quiet PySem.MeetsSeq3.plain_eq_loop _, ?_⟩
      rw [show (i : Int) + 1 = ((i + 1 : Nat) : Int) from rfl]
      exact ih (i + 1) (by lia) (by lia) h
    · rw [decide_eq_false hq]
      rw [if_neg hq] at h
      simp only [Bool.false_eq_true, if_false]
      refine wpAny_bind (wpAny_listItems ha da (wpAny_bind (wpAny_listItems hb db ?_)))
      rw [e1, e2]
      show wpAny _ _ (richCompare .Lt (.ref ps[i].1) (.ref qs[i].1) >>= _) _ _ _
      refine wpAny_bind (tup_cmp (.inl rfl) kpi kqi (by show A.units + 1 < cLine; lia) (wpAny_pure ?_))
      rw [keyCmp_lt]; exact h

theorem list_lt {a b : Addr} {ps qs : List (Addr × Key)} {Q : Value → Shared → Prop} (ha : s.heap.IsList a (pvs ps).toArray) (hb : s.heap.IsList b (pvs qs).toArray)
    (kp : ∀ q ∈ ps, IsKey s.heap q.1 q.2) (kq : ∀ q ∈ qs, IsKey s.heap q.1 q.2) (hl : ps.length = qs.length) (hu : A.units + 66 < cLine) (h : Q (.bool (keysLt (ps.map (·.2)) (qs.map (·.2)))) s) :
    wpAny (model prog w) A (richCompare .Lt (.ref a) (.ref b)) Q E s := by
  have ta := ha.typeIs
  have tb := hb.typeIs
  refine goal_G fun GG hGG => ?_
  obtain ⟨oa, ga, ca, na, da⟩ := ha
  refine hGG ?_
  clear hGG GG
  refine goal_G fun GG hGG => ?_
  obtain ⟨ob, gb, cb, nb, db⟩ := hb
  refine hGG ?_
  clear hGG GG
  refine wpAny_richCompare_same_room ta tb F.slot_list_lt ?_ (by lia)
  refine wpAny_call (codeAny_call_builtin F.slot_list_lt.plain F.entry_list_lt (F.slot_list_lt.check _ _ _ _ _ _ _ _ ta (F.args_list_lt_2 _ _) ?_))
  show wpAny _ _ (isInstance (.ref b) (.type "list") >>= _) _ _ s
  refine wpAny_bind (wpAny_isInstance tb AutoSeq1.sub_list_list ?_)
  refine wpAny_pure ⟨plainId_quiet PySem.MeetsSeq3.plain_eq_loop _, ?_⟩
  exact lt_loop ga da gb db kp kq hl (by lia) _ 0 rfl (Nat.zero_le _) ⟨(fun e => by cases e), by simpa using h⟩

/-- the least of a list of lists of keys -/
noncomputable abbrev Rw := Addr × List (Addr × Key)
noncomputable def minStep (best r : Rw) : Rw := if keysLt (r.2.map (·.2)) (best.2.map (·.2)) then r else best
theorem min_loop {h₀ : Heap} {L l I S : Addr} {m : Str → Option Value} {news : List (Addr × Obj)} {rws : List Rw} {n : Nat} {R : Result → Shared → Prop}
    (hl : (l, listOf (rws.map fun r => Value.ref r.1).toArray n) ∈ news) (hr : ∀ r ∈ rws, ∃ n, (r.1, listOf (pvs r.2).toArray n) ∈ news) (hk : ∀ r ∈ rws, ∀ q ∈ r.2, PairIn news q) (hlen : ∀ r ∈ rws, r.2.length = 3)
    (hu : A.units + 70 < cLine) (hh : A.handled = none) (nIS : I ≠ S) (oI : ∀ p ∈ news, p.1 ≠ I) (oS : ∀ p ∈ news, p.1 ≠ S) :
    ∀ (td dn : List Rw) (best : Rw) (s : Shared) (o : Obj) (c : Nat), rws = dn ++ td → best ∈ rws → Fr h₀ L s.heap m → News h₀ L s.heap ((I, o) :: (S, listOf #[.ref best.1, .ref best.1] c) :: news) → isLi o l dn.length →
    (∀ h' tk', Fr h₀ L h' m → News h₀ L h' news → R (.ok (.ret (.ref (td.foldl minStep best).1))) { s with heap := h', toks := tk' }) →
    codeAny (model prog w) A (.builtin "min.loop" ⟨[.ref I, .none, .ref S], []⟩) R s := by
  have hname : (toString "min" ++ toString ".loop" : String) = "min.loop" := by decide
  intro td
  induction td with
  | nil =>
    intro dn best s o c hd hb F N ho hR
    refine codeAny_builtin PySem.F.entry_min_loop ?_
    rw [Around.under_plainId PySem.F.plain_min_loop _]
    show wpAny _ A.in1 (seqItems? (.ref S) >>= _) _ _ s
    refine wpAny_bind (wpAny_seqItems (N _ (.tail _ (.head _))).1 rfl ?_)
    show wpAny _ A.in1 (tryCatch (pyNext (.ref I)) _ >>= _) _ _ s
    refine wpAny_bind (wpAny_tryCatch (next_list_end hh F N (fun p hp => ?_) ho (N.isList (.tail _ (.tail _ hl))) (by rw [hd]; simp) ?_))
    · rcases List.mem_cons.mp hp with rfl | hp
      · exact Ne.symm nIS
      · exact oI p hp
    intro h' F' N'
    show wpAny _ A.in1 (updateSeq S (fun _ => #[]) >>= _) _ _ _
    refine wpAny_bind ?_
    refine wpAny_updateSeq (N' _ (.head _)).1 rfl (wpAny_bind (wpAny_letGo (wpAny_pure ?_)))
    have t := led_lost F' N' oS (Heap.SameBut.update h' S (Obj.mapSeq fun _ => (#[] : Array Value))).extBut
    exact hR _ _ t.1 t.2
  | cons r td ih =>
    intro dn best s o c hd hb F N ho hR
    have hrm : r ∈ rws := by rw [hd]; simp
    refine codeAny_builtin PySem.F.entry_min_loop ?_
    rw [Around.under_plainId PySem.F.plain_min_loop _]
    show wpAny _ A.in1 (seqItems? (.ref S) >>= _) _ _ s
    refine wpAny_bind (wpAny_seqItems (N _ (.tail _ (.head _))).1 rfl ?_)
    show wpAny _ A.in1 (tryCatch (pyNext (.ref I)) _ >>= _) _ _ s
    refine wpAny_bind (wpAny_tryCatch (next_list F N (fun p hp => ?_) ho (N.isList (.tail _ (.tail _ hl))) (by rw [hd]; simp) ?_))
    · rcases List.mem_cons.mp hp with rfl | hp
      · exact Ne.symm nIS
      · exact oI p hp
    intro h' o' ho' F' N'
    rw [show (rws.map fun r => Value.ref r.1).getD dn.length Value.none = .ref r.1 from by rw [hd]; simp]
    show wpAny _ A.in1 (tryCatch (holding [.ref r.1, .ref r.1] (richCompare .Lt (.ref r.1) (.ref best.1) >>= _)) _ >>= _) _ _ _
    first | refine Exists.elim (hr r hrm) fun n1 m1 => ?_ | refine and_on2 (hr r hrm) fun n1 m1 => ?_
    first | refine Exists.elim (hr best hb) fun n2 m2 => ?_ | refine and_on2 (hr best hb) fun n2 m2 => ?_
    have tl : ∀ p ∈ news, p ∈ (I, o') :: (S, listOf #[.ref best.1, .ref best.1] c) :: news := fun p hp => .tail _ (.tail _ hp)
    refine wpAny_bind (wpAny_tryCatch (wpAny_holding (wpAny_bind (list_lt (N'.isList (tl _ m1)) (N'.isList (tl _ m2)) (fun q hq => PairIn.isKey N' ((hk r hrm q hq).sub tl)) (fun q hq => PairIn.isKey N' ((hk best hb q hq).sub tl)) ((hlen r hrm).trans (hlen best hb).symm) (by show A.units + 1 + 66 < cLine; lia) ?_))))
    refine wpAny_bind (wpAny_holding (wpAny_truthy_bool ?_))
    refine wpAny_bind (wpAny_letGo (wpAny_pure ?_))
    have hst : minStep best r = if keysLt (r.2.map (·.2)) (best.2.map (·.2)) then r else best := rfl
    cases hc : keysLt (r.2.map (·.2)) (best.2.map (·.2)) with
    | true =>
      rw [hc, if_pos rfl] at hst
      simp only [if_true]
      refine wpAny_bind ?_
      refine wpAny_updateSeq (N' _ (.tail _ (.head _))).1 rfl (wpAny_bind (wpAny_letGo ?_))
      rw [hname]
      have zS := N' _ (.tail _ (.head _))
      have t := led_turn (o' := listOf #[.ref r.1, .ref r.1] c) F' (News.swap N') (fun p hp => by
        rcases List.mem_cons.mp hp with rfl | hp
        · exact nIS
        · exact oS p hp) (Heap.SameBut.update _ S (Obj.mapSeq fun _ => #[.ref r.1, .ref r.1])) (Heap.get?_update_self _ zS.1 rfl)
      refine wpAny_pure ⟨plainId_quiet PySem.F.plain_min_loop _, ih (dn ++ [r]) r _ o' c (by rw [hd]; simp) hrm t.1 (News.swap t.2) (by simpa using ho') fun h'' tk'' F'' N'' => ?_⟩
      have := hR h'' tk'' F'' N''
      rw [List.foldl_cons, hst] at this
      exact this
    | false =>
      rw [hc, if_neg (by simp)] at hst
      simp only [Bool.false_eq_true, if_false]
      refine wpAny_bind (wpAny_letGo ?_)
      rw [hname]
      refine wpAny_pure ⟨plainId_quiet PySem.F.plain_min_loop _, ih (dn ++ [r]) best _ o' c (by rw [hd]; simp) hb F' N' (by simpa using ho') fun h'' tk'' F'' N'' => ?_⟩
      have := hR h'' tk'' F'' N''
      rw [List.foldl_cons, hst] at this
      exact this

theorem min_first {h₀ : Heap} {L l I S : Addr} {m : Str → Option Value} {news : List (Addr × Obj)} {r : Rw} {td : List Rw} {n c : Nat} {o : Obj} {R : Result → Shared → Prop}
    (hl : (l, listOf ((r :: td).map fun r => Value.ref r.1).toArray n) ∈ news) (hr : ∀ r' ∈ r :: td, ∃ n, (r'.1, listOf (pvs r'.2).toArray n) ∈ news) (hk : ∀ r' ∈ r :: td, ∀ q ∈ r'.2, PairIn news q) (hlen : ∀ r' ∈ r :: td, r'.2.length = 3)
    (hu : A.units + 70 < cLine) (hh : A.handled = none) (nIS : I ≠ S) (oI : ∀ p ∈ news, p.1 ≠ I) (oS : ∀ p ∈ news, p.1 ≠ S)
    (F : Fr h₀ L s.heap m) (N : News h₀ L s.heap ((I, o) :: (S, listOf #[] c) :: news)) (ho : isLi o l 0)
    (hR : ∀ h' tk', Fr h₀ L h' m → News h₀ L h' news → R (.ok (.ret (.ref (td.foldl minStep r).1))) { s with heap := h', toks := tk' }) :
    codeAny (model prog w) A (.builtin "min.loop" ⟨[.ref I, .none, .ref S], []⟩) R s := by
  have hname : (toString "min" ++ toString ".loop" : String) = "min.loop" := by decide
  refine codeAny_builtin PySem.F.entry_min_loop ?_
  rw [Around.under_plainId PySem.F.plain_min_loop _]
  show wpAny _ A.in1 (seqItems? (.ref S) >>= _) _ _ s
  refine wpAny_bind (wpAny_seqItems (N _ (.tail _ (.head _))).1 rfl ?_)
  show wpAny _ A.in1 (tryCatch (pyNext (.ref I)) _ >>= _) _ _ s
  refine wpAny_bind (wpAny_tryCatch (next_list F N (fun p hp => ?_) ho (N.isList (.tail _ (.tail _ hl))) (by simp) ?_))
  · rcases List.mem_cons.mp hp with rfl | hp
    · exact Ne.symm nIS
    · exact oI p hp
  intro h' o' ho' F' N'
  rw [show ((r :: td).map fun r => Value.ref r.1).getD 0 Value.none = .ref r.1 from rfl]
  show wpAny _ A.in1 (updateSeq S (fun _ => #[.ref r.1, .ref r.1]) >>= _) _ _ _
  refine wpAny_bind ?_
  have zS := N' _ (.tail _ (.head _))
  refine wpAny_updateSeq zS.1 rfl ?_
  rw [hname]
  have t := led_turn (o' := listOf #[.ref r.1, .ref r.1] (c + 1)) F' (News.swap N') (fun p hp => by
    rcases List.mem_cons.mp hp with rfl | hp
    · exact nIS
    · exact oS p hp) (Heap.SameBut.update h' S (Obj.mapSeq fun _ => #[.ref r.1, .ref r.1])) (Heap.get?_update_self _ zS.1 rfl)
  exact wpAny_pure ⟨plainId_quiet PySem.F.plain_min_loop _, min_loop (rws := r :: td) hl hr hk hlen hu hh nIS oI oS td [r] r _ o' (c + 1) rfl (.head _) t.1 (News.swap t.2) (by simpa using ho') hR⟩

theorem call_min_rows {h₀ : Heap} {L l : Addr} {m : Str → Option Value} {news : List (Addr × Obj)} {r : Rw} {td : List Rw} {n : Nat} {Q : Value → Shared → Prop}
    (F : Fr h₀ L s.heap m) (N : News h₀ L s.heap news)
    (hl : (l, listOf ((r :: td).map fun r => Value.ref r.1).toArray n) ∈ news) (hr : ∀ r' ∈ r :: td, ∃ n, (r'.1, listOf (pvs r'.2).toArray n) ∈ news) (hk : ∀ r' ∈ r :: td, ∀ q ∈ r'.2, PairIn news q) (hlen : ∀ r' ∈ r :: td, r'.2.length = 3)
    (hu : A.units + 70 < cLine) (hh : A.handled = none)
    (h : ∀ h' tk', Fr h₀ L h' m → News h₀ L h' news → Q (.ref (td.foldl minStep r).1) { s with heap := h', toks := tk' }) :
    wpAny (model prog w) A (call (.builtin "min") [.ref l]) Q E s := by
  have hname : (toString "min" ++ toString ".loop" : String) = "min.loop" := by decide
  refine call_function_tree PySem.F.kind_min PySem.F.plain_min PySem.F.entry_min (PySem.F.args_min1 _) ?_
  show wpAny _ A.in1 (Builtin.Builtins.bindParams "min" ["key", "default"] 0 ⟨[], []⟩ >>= _) _ _ s
  refine wpAny_bind (wpAny_of_eq (show Builtin.Builtins.bindParams "min" ["key", "default"] 0 ⟨[], []⟩ = pure [none, none] from rfl) ?_)
  refine wpAny_bind (wpAny_pure ?_)
  refine wpAny_bind (wpAny_pyIter_list (N.isList hl) ?_)
  refine and_on3 (led_new (o := { cls := .type "list_iterator", data := .fields #[.ref l, .int 0 0] }) F N rfl) fun F2 N2 o2 => ?_
  refine wpAny_bind (wpAny_newObj_type ?_)
  refine and_on3 (led_new (o := listOf ([] : List Value).toArray 0) F2 N2 rfl) fun F3 N3 o3 => ?_
  rw [hname]
  refine wpAny_pure ⟨plainId_quiet PySem.F.plain_min_loop _, min_first (news := news) hl hr hk hlen hu hh (o3 _ (.head _)) o2 (fun p hp => o3 p (.tail _ hp)) F3 (News.swap N3) ⟨rfl, rfl⟩ ?_⟩
  intro h' tk' F' N'
  exact h h' tk' F' N'
end
end
section
open PyProof.Rows.LCg (NsObj ns_obj)
theorem getD_refs (rows : List (Addr × List Key)) (i : Nat) (r : Addr × List Key) (h : rows[i]? = some r) : (rows.map fun r => Value.ref r.1).getD i .none = .ref r.1 := by
  simp [List.getD, h]
noncomputable abbrev Off (a : Addr) (l : List (Addr × Obj)) : Prop := ∀ p ∈ l, p.1 ≠ a
theorem Off.cons {a b : Addr} {o : Obj} {l : List (Addr × Obj)} (h : b ≠ a) (t : Off a l) : Off a ((b, o) :: l) := fun p hp => by
  rcases List.mem_cons.mp hp with rfl | hp
  · exact h
  · exact t p hp
theorem Off.app {a : Addr} {l r : List (Addr × Obj)} (h : Off a l) (t : Off a r) : Off a (l ++ r) := fun p hp => (List.mem_append.mp hp).elim (h p) (t p)
theorem all_cons {P : Addr → Prop} {a : Addr} {o : Obj} {r : List (Addr × Obj)} (h : P a) (t : ∀ p ∈ r, P p.1) : ∀ p ∈ (a, o) :: r, P p.1 := fun p hp => (List.mem_cons.mp hp).elim (fun e => by rw [e]; exact h) (t p)
theorem all_app {P : Addr → Prop} {l r : List (Addr × Obj)} (h : ∀ p ∈ l, P p.1) (t : ∀ p ∈ r, P p.1) : ∀ p ∈ l ++ r, P p.1 := fun p hp => (List.mem_append.mp hp).elim (h p) (t p)
/-- [a, b, c] to [b, c, a]; to [c, a, b] -/
theorem News.rot {h₀ h : Heap} {L : Addr} {x y z : Addr × Obj} {r : List (Addr × Obj)} (N : News h₀ L h (x :: y :: z :: r)) : News h₀ L h (y :: z :: x :: r) := News.sub N (fun p hp => by
  simp only [List.mem_cons] at hp ⊢
  rcases hp with h | h | h | h <;> simp [h])
theorem News.rot' {h₀ h : Heap} {L : Addr} {x y z : Addr × Obj} {r : List (Addr × Obj)} (N : News h₀ L h (x :: y :: z :: r)) : News h₀ L h (z :: x :: y :: r) := News.rot (News.rot N)
theorem News.rot4 {h₀ h : Heap} {L : Addr} {x y z v : Addr × Obj} {r : List (Addr × Obj)} (N : News h₀ L h (x :: y :: z :: v :: r)) : News h₀ L h (y :: z :: v :: x :: r) := News.sub N (fun p hp => by
  simp only [List.mem_cons] at hp ⊢
  rcases hp with h | h | h | h | h <;> simp [h])

section
variable {M : Model} {A : Around} {E : Value → Shared → Prop} {s : Shared} {h₀ : Heap} {L C : Addr} {news : List (Addr × Obj)} {scope : Scope} {cl : List (Str × Addr)} {env : Env} {x : Str} {pos : Pos} {v : Value} {c : Addr} {o : Obj} {Q : Value → Shared → Prop}
/-- a name of the function's, in a comprehension's block -/
theorem ld_cellC (N : News h₀ L s.heap news) (hc : cl.lookup x = some c) (hm : (c, o) ∈ news) (hd : o.data = .cell (some v)) (h : Q v s)
    (hk : (compEnvC scope cl C env).scope.kind = .function := by rfl) (hx : (compEnvC scope cl C env).kindOf x = some .cell := by rfl) (hb : (x == ("__debug__" : Str)) = false := by decide) :
    wpAny M A (eval (.Name x pos) (compEnvC scope cl C env)) Q E s := wpAny_Name (wpAny_loadName_cell hk hx hc ⟨o, N.get hm, hd⟩ h) hb
end
theorem KeyIn.sub {l l' : List (Addr × Obj)} {adr : Key → Addr} {k : Key} (hs : ∀ p ∈ l, p ∈ l') (hk : KeyIn l adr k) : KeyIn l' adr k := by
  obtain ⟨o, hm, h⟩ := hk
  exact ⟨o, hs _ hm, h⟩
end
section
theorem kvs_last (adr : Key → Addr) (ks : List Key) (l : Key) : kl_last (kvs adr (ks ++ [l])).toArray.toList = some (kvs adr ks, .ref (adr l)) := by
  rw [show (kvs adr (ks ++ [l])).toArray.toList = kvs adr ks ++ [.ref (adr l)] from by simp [kvs]]
  exact kpa_last _ _

theorem heappop_spec {w : World} {gd : Option (List Code)} {cn : Str} {cs : Scope} {a : Addr} {ccd : Value} {cl : List (Str × Addr)} {outer : List Env} {A₀ : Around} {base h₀ : Heap} {L : Addr} {m : Str → Option Value} {rest : List (Addr × Obj)} {s : Shared} {Q E : Value → Shared → Prop} {p : Program} {loose : List Str} {mean : ExcName → Option Value} {mg mb : Str → Option Value} {ha : Addr} {adr : Key → Addr} {ks : List Key} {l : Key} {n : Nat}
    (B : Below A₀ base outer h₀) (F : Fr h₀ L s.heap m) (X₀ : (Mine.hd.heap_1 w.params).In h₀) (T : Top p loose mean mg mb h₀) (hk : cs.kind = .function) (N : News h₀ L s.heap ((ha, listOf (kvs adr (ks ++ [l])).toArray n) :: rest))
    (hne : ∀ p ∈ rest, p.1 ≠ ha) (hK : ∀ k ∈ ks ++ [l], KeyIn rest adr k) (h2 : ks.length < 90)
    (h : ∀ h' tk' n', Fr h₀ L h' m → News h₀ L h' ((ha, listOf (kvs adr (if ks = [] then [] else sup (ks.set 0 l) 0)).toArray n') :: rest) → Q (.ref (adr (ks.getD 0 l))) { s with heap := h', toks := tk' }) :
    wpAny (model PySem.Challenge.rw_pg0112_01.row.prog w) (Ar 860 4800 (envX cn cs L a ccd cl :: outer) gd) (call (.ref 28) [.ref ha]) Q E s := by
  revert X₀; k_fill; intro X₀
  refine wpAny_call ?_
  k_dflt ktr_enter
  rename_i g' L' h' FG F' N' B' X' T'
  first | refine Exists.elim (Fr.some F' [("heap", .ref ha)] ⟨rfl, trivial⟩) fun u F1 => ?_ | refine and_on2 (Fr.some F' [("heap", .ref ha)] ⟨rfl, trivial⟩) fun u F1 => ?_
  clear F'
  walk
  refine kl_pop F1 N' (kvs_last adr ks l) (Upd.head hne) (by simp only [sizeLine_eq, List.length_map, List.length_append, List.length_singleton]; omega) ?_
  intro h2' F2 N2
  clear F1 N'
  rcases ks with _ | ⟨k0, kr⟩
  · rw [show kvs adr [] = [] from rfl] at N2
    walk
    exact h _ _ _ (by assumption) (by assumption)
  · simp only [List.length_cons] at h2
    rw [show kvs adr (k0 :: kr) = .ref (adr k0) :: kvs adr kr from rfl] at N2
    walk
    rename News g' L' _ _ => N3
    refine wpAny_truthy_list (N3.isList (.head _)) (by simp; omega) ?_
    rw [show (!(Value.ref (adr k0) :: kvs adr kr).toArray.isEmpty) = true from rfl]
    walk
    rename News g' L' _ _ => N4
    rename Fr g' L' _ _ => F4
    rw [show Value.ref (adr k0) :: kvs adr kr = kvs adr (k0 :: kr) from rfl] at N4
    refine store_gen F4 N4 hne (by omega) (by simp) (by simp; omega) ?_
    intro h5 F5 N5
    rw [show Int.toNat 0 = 0 from rfl, set_kvs] at N5
    clear F4 N4
    walk
    refine lift rfl (Nat.le_of_ble_eq_true rfl) rfl (Nat.le_of_ble_eq_true rfl) (siftup_spec (cl := []) (pos := 0) B' F5 X' T' rfl N5 hne ?_ (by simp) (by simp; omega) ?_)
    · intro k hk
      rcases List.mem_or_eq_of_mem_set hk with hk | rfl
      · exact hK _ (List.mem_append_left _ hk)
      · exact hK _ (by simp)
    intro h9 tk9 F9 N9
    clear F5 N5
    walk
    exact h _ _ _ (by assumption) (by simpa using by assumption)

noncomputable def hfold (ks : List Key) : Nat → List Key
  | 0 => ks
  | n + 1 => hfold (sup ks n) n

theorem sdown_len (x : Key) (sp : Nat) : ∀ (pos : Nat) (ks : List Key), (sdown ks x sp pos).length = ks.length := by
  intro pos
  induction pos using Nat.strongRecOn with
  | ind pos ih =>
    intro ks
    rw [sdown_eq]
    by_cases h : sp < pos
    · rw [dif_pos h]
      split
      · rw [ih _ (by omega), List.length_set]
      · rw [List.length_set]
    · rw [dif_neg h, List.length_set]
theorem sdown_mem (x : Key) (sp : Nat) (S : Key → Prop) (hx : S x) : ∀ (pos : Nat) (ks : List Key), pos < ks.length → (∀ k ∈ ks, S k) → ∀ k ∈ sdown ks x sp pos, S k := by
  intro pos
  induction pos using Nat.strongRecOn with
  | ind pos ih =>
    intro ks hp hks k hk
    rw [sdown_eq] at hk
    by_cases h : sp < pos
    · rw [dif_pos h] at hk
      split at hk
      · refine ih _ (by omega) _ (by rw [List.length_set]; omega) (fun y hy => ?_) k hk
        rcases List.mem_or_eq_of_mem_set hy with hy | rfl
        · exact hks _ hy
        · exact hks _ (getD_mem ks _ (by omega))
      · rcases List.mem_or_eq_of_mem_set hk with hy | rfl
        · exact hks _ hy
        · exact hx
    · rw [dif_neg h] at hk
      rcases List.mem_or_eq_of_mem_set hk with hy | rfl
      · exact hks _ hy
      · exact hx
theorem supGo_facts (S : Key → Prop) : ∀ (n : Nat) (ks : List Key) (pos : Nat), ks.length - pos = n → pos < ks.length → (∀ k ∈ ks, S k) →
    (supGo ks pos).1.length = ks.length ∧ (supGo ks pos).2 < ks.length ∧ pos ≤ (supGo ks pos).2 ∧ ∀ k ∈ (supGo ks pos).1, S k := by
  intro n
  induction n using Nat.strongRecOn with
  | ind n ih =>
    intro ks pos hn hp hks
    rw [supGo_eq]
    by_cases h : 2 * pos + 1 < ks.length
    · rw [dif_pos h]
      split
      · rename_i hc
        have := ih (ks.length - (2 * pos + 2)) (by omega) (ks.set pos (ks.getD (2 * pos + 2) (0, 0, 0))) (2 * pos + 2) (by rw [List.length_set]) (by rw [List.length_set]; omega) (fun y hy => by
          rcases List.mem_or_eq_of_mem_set hy with hy | rfl
          · exact hks _ hy
          · exact hks _ (getD_mem ks _ (by omega)))
        rw [List.length_set] at this
        exact ⟨this.1, this.2.1, by omega, this.2.2.2⟩
      · have := ih (ks.length - (2 * pos + 1)) (by omega) (ks.set pos (ks.getD (2 * pos + 1) (0, 0, 0))) (2 * pos + 1) (by rw [List.length_set]) (by rw [List.length_set]; omega) (fun y hy => by
          rcases List.mem_or_eq_of_mem_set hy with hy | rfl
          · exact hks _ hy
          · exact hks _ (getD_mem ks _ (by omega)))
        rw [List.length_set] at this
        exact ⟨this.1, this.2.1, by omega, this.2.2.2⟩
    · rw [dif_neg h]
      exact ⟨rfl, hp, Nat.le_refl _, hks⟩
theorem sup_facts (S : Key → Prop) (ks : List Key) (pos : Nat) (hp : pos < ks.length) (hks : ∀ k ∈ ks, S k) : (sup ks pos).length = ks.length ∧ ∀ k ∈ sup ks pos, S k := by
  have f := supGo_facts S _ ks pos rfl hp hks
  unfold sup
  dsimp only
  refine ⟨by rw [sdown_len, List.length_set, f.1], ?_⟩
  refine sdown_mem _ _ S (hks _ (getD_mem ks _ hp)) _ _ (by rw [List.length_set, f.1]; exact f.2.1) (fun y hy => ?_)
  rcases List.mem_or_eq_of_mem_set hy with hy | rfl
  · exact f.2.2.2 _ hy
  · exact hks _ (getD_mem ks _ hp)

theorem heapify_spec {w : World} {gd : Option (List Code)} {cn : Str} {cs : Scope} {a : Addr} {ccd : Value} {cl : List (Str × Addr)} {outer : List Env} {A₀ : Around} {base h₀ : Heap} {L : Addr} {m : Str → Option Value} {rest : List (Addr × Obj)} {s : Shared} {Q E : Value → Shared → Prop} {p : Program} {loose : List Str} {mean : ExcName → Option Value} {mg mb : Str → Option Value} {ha : Addr} {adr : Key → Addr} {ks : List Key} {n : Nat}
    (B : Below A₀ base outer h₀) (F : Fr h₀ L s.heap m) (X₀ : (Mine.hd.heap_1 w.params).In h₀) (T : Top p loose mean mg mb h₀) (hk : cs.kind = .function) (N : News h₀ L s.heap ((ha, listOf (kvs adr ks).toArray n) :: rest))
    (hne : ∀ p ∈ rest, p.1 ≠ ha) (hK : ∀ k ∈ ks, KeyIn rest adr k) (h2 : ks.length = 12)
    (h : ∀ h' tk', Fr h₀ L h' m → News h₀ L h' ((ha, listOf (kvs adr (hfold ks 6)).toArray n) :: rest) → Q .none { s with heap := h', toks := tk' }) :
    wpAny (model PySem.Challenge.rw_pg0112_01.row.prog w) (Ar 860 4800 (envX cn cs L a ccd cl :: outer) gd) (call (.ref 35) [.ref ha]) Q E s := by
  revert X₀; k_fill; intro X₀
  refine wpAny_call ?_
  k_dflt ktr_enter
  rename_i g' L' h' FG F' N' B' X' T'
  first | refine Exists.elim (Fr.some F' [("x", .ref ha)] ⟨rfl, trivial⟩) fun u F1 => ?_ | refine and_on2 (Fr.some F' [("x", .ref ha)] ⟨rfl, trivial⟩) fun u F1 => ?_
  clear F'
  walk
  refine len_list (N'.isList (.head _)) (by simp; omega) ?_
  rw [show ((kvs adr ks).toArray.size : Int) = 12 from by simp [h2]]
  walk
  refine wpAny_For ?_
  walk
  rename IsRange _ _ _ _ _ _ _ _ => hR
  rename Fr g' L' _ _ => F3
  rename News g' L' _ _ => N3
  refine call_reversed_range hR (by decide +kernel) ?_
  rw [show (0 : Int) + (Builtin.Range.rangeSize 0 (Int.fdiv 12 2) 1 - 1) * 1 = 5 from by decide, show Builtin.Range.rangeSize 0 (Int.fdiv 12 2) 1 = 6 from by decide]
  refine and_on3 (led_new (o := riObj 5 6 (-1)) F3 N3 rfl) fun F4 N4 ne4 => ?_
  refine wpAny_pyIter_rangeiter (N4 _ (.head _)).1 ?_
  dsimp only
  generalize hI : Array.size _ = I at N4 ne4 ⊢
  refine For_G (fun n₀ m₁ news₁ => ∃ (ks' : List Key), news₁ = ((I, riObj ((n₀ : Int) - 1) n₀ (-1)) :: (ha, listOf (kvs adr ks').toArray n) :: rest) ∧ AllIs m₁ [("x", .ref ha)] ∧
    (∀ k ∈ ks', k ∈ ks) ∧ ks'.length = 12 ∧ n₀ ≤ 6 ∧ hfold ks' n₀ = hfold ks 6) (n₀ := 6) F4 N4 ⟨ks, rfl, ⟨rfl, trivial⟩, fun _ h => h, h2, by omega, rfl⟩ ?_
  clear F4 N4 F3 N3 hR
  intro J1 Q1 hJ1 hQ1 n₀ m₁ news₁ h₁ tk₁ F1 N1 hJJ
  refine Exists.elim hJJ fun ks' hAA => ?_
  refine and_on6 hAA fun hE0 hm hsub hlen hn hsd => ?_
  clear hAA hJJ
  refine goal_G fun GG hGG => ?_
  subst hE0
  refine hGG ?_
  clear hGG GG
  first | refine Exists.elim (Fr.some F1 _ hm) fun u' F1 => ?_ | refine and_on2 (Fr.some F1 _ hm) fun u' F1 => ?_
  clear hm
  have ne5 : ∀ (l : List Key), ∀ p ∈ (ha, listOf (kvs adr l).toArray n) :: rest, p.1 ≠ I := fun l p hp => by
    rcases List.mem_cons.mp hp with rfl | hp
    · exact ne4 (ha, listOf (kvs adr ks).toArray n) (.head _)
    · exact ne4 p (.tail _ hp)
  rcases n₀ with _ | k
  · refine next_range_end rfl F1 N1 (ne5 ks') (by decide) ?_
    intro h5 F5 N5
    refine hQ1 _ _ ?_
    clear F1 N1
    have e : ks' = hfold ks 6 := hsd
    rw [e] at N5
    walk
    exact h _ _ (by assumption) (by assumption)
  · refine next_range F1 N1 (ne5 ks') (by omega) ?_
    intro h5 F5 N5
    clear F1 N1
    rw [show ((k + 1 : Nat) : Int) - 1 + -1 = (k : Int) - 1 from by omega, show ((k + 1 : Nat) : Int) - 1 = k from by omega] at N5
    rw [show ((k + 1 : Nat) : Int) - 1 = k from by omega]
    dsimp only
    walk
    rename Fr g' L' _ _ => F6
    rename News g' L' _ _ => N6
    refine lift rfl (Nat.le_of_ble_eq_true rfl) rfl (Nat.le_of_ble_eq_true rfl) (siftup_spec (cl := []) (pos := k) B' F6 X' T' rfl (News.swap N6) ?_ ?_ (by omega) (by omega) ?_)
    · intro p hp
      rcases List.mem_cons.mp hp with rfl | hp
      · exact fun q => ne5 ks' _ (.head _) q.symm
      · exact hne p hp
    · exact fun k hk => (hK k (hsub k hk)).tail
    intro h7 tk7 F7 N7
    clear F6 N6
    walk
    rename Fr g' L' _ _ => F8
    rename News g' L' _ _ => N8
    have sf := sup_facts (fun x => x ∈ ks) ks' k (by omega) hsub
    exact ws_next (n' := k) (F8) (News.swap N8) (by omega) (hJ1 _ _ _ ⟨sup ks' k, rfl, ⟨rfl, trivial⟩, sf.2, by rw [sf.1]; exact hlen, by omega, hsd⟩)
end
section
open PyProof.Rows.LCg (NsObj ns_obj)

local macro_rules | `(tactic| walk_at "eval Name") => `(tactic| (refine ld_cellC (by with_reducible assumption) rfl (by k_mem) (by with_reducible assumption) ?_))
local macro_rules | `(tactic| walk_at "eval Name") => `(tactic| (refine LCgL.ld_own (by with_reducible assumption) (by k_mem) (by with_reducible assumption) rfl ?_))

noncomputable def popAll : Nat → List Key → List Key
  | 0, _ => []
  | n + 1, ks => ks.dropLast.getD 0 (ks.getLastD (0, 0, 0)) :: popAll n (if ks.dropLast = [] then [] else sup (ks.dropLast.set 0 (ks.getLastD (0, 0, 0))) 0)
noncomputable def clash (p : List Key) (k : Key) : Bool := p.any fun o => o.2.1 == k.2.1 || o.2.2 == k.2.2
noncomputable def gstep (p : List Key) (k : Key) : List Key := if clash p k then p else p ++ [k]
noncomputable def nearest (ks : List Key) : List Key := (popAll ks.length (hfold ks 6)).foldl gstep []
theorem clash_filter (ps : List (Addr × Key)) (k0 : Key) : decide (List.map (fun x => x.2) (ps.filter fun q => q.2.2.1 == k0.2.1 || q.2.2.2 == k0.2.2) = List.map (fun x : Addr × Key => x.2) []) = !clash (ps.map (·.2)) k0 := by
  induction ps with
  | nil => rfl
  | cons q r ih =>
    unfold clash at ih ⊢
    rw [List.filter_cons, List.map_cons, List.any_cons]
    by_cases h : (q.2.2.1 == k0.2.1 || q.2.2.2 == k0.2.2) = true
    · rw [if_pos h, h]; simp
    · rw [if_neg h, ih]
      simp only [Bool.not_eq_true] at h
      rw [h]; simp
theorem hfold_facts (S : Key → Prop) : ∀ (n : Nat) (ks : List Key), n ≤ ks.length → (∀ k ∈ ks, S k) → (hfold ks n).length = ks.length ∧ ∀ k ∈ hfold ks n, S k
  | 0, ks, _, h => ⟨rfl, h⟩
  | n + 1, ks, hn, h => by
    have f := sup_facts S ks n (by omega) h
    have := hfold_facts S n (sup ks n) (by rw [f.1]; omega) f.2
    exact ⟨this.1.trans f.1, this.2⟩

theorem nearest_spec {w : World} {gd : Option (List Code)} {cn : Str} {cs : Scope} {a : Addr} {ccd : Value} {cl : List (Str × Addr)} {outer : List Env} {A₀ : Around} {base h₀ : Heap} {L : Addr} {m : Str → Option Value} {rest : List (Addr × Obj)} {s : Shared} {Q E : Value → Shared → Prop} {p : Program} {loose : List Str} {mean : ExcName → Option Value} {mg mb : Str → Option Value} {ka : Addr} {adr : Key → Addr} {rows : List (Addr × List Key)}
    (B : Below A₀ base outer h₀) (F : Fr h₀ L s.heap m) (X₀ : (Mine.hd.heap_1 w.params).In h₀) (T : Top p loose mean mg mb h₀) (hk : cs.kind = .function) (N : News h₀ L s.heap rest)
    (hka : ∃ n, (ka, listOf (rows.map fun r => Value.ref r.1).toArray n) ∈ rest) (hrows : ∀ r ∈ rows, ∃ n, (r.1, listOf (kvs adr r.2).toArray n) ∈ rest)
    (hK : ∀ r ∈ rows, ∀ k ∈ r.2, KeyIn rest adr k) (h12 : (rows.flatMap (·.2)).length = 12)
    (h : ∀ h' tk' P ps n' tl, Fr h₀ L h' m → News h₀ L h' ((P, listOf (pvs ps).toArray n') :: (tl ++ rest)) → (∀ p ∈ tl ++ rest, p.1 ≠ P) → (∀ q ∈ ps, PairIn tl q) → ps.map (·.2) = nearest (rows.flatMap (·.2)) → (∀ p ∈ rest, p.1 < P) → Q (.ref P) { s with heap := h', toks := tk' }) :
    wpAny (model PySem.Challenge.rw_pg0112_01.row.prog w) (Ar 840 4700 (envX cn cs L a ccd cl :: outer) gd) (call (.ref 120) [.ref ka]) Q E s := by
  revert X₀; k_fill; intro X₀
  refine wpAny_call ?_
  refine code_defC B F X₀ N T rfl rfl hk (by k_is) (by k_is) (by k_room) (BindsTo.of_eq rfl) rfl (by decide +kernel) ?_ rfl rfl rfl
  intro g' L' h' tk' cells' FG F' N' Y' B' X' T' l1
  try dsimp only
  try k_fold
  refine goal_G fun GG hGG => ?_
  obtain ⟨o1, o2, hE, d1, d2⟩ := CellsAre.two Y'
  refine hGG ?_
  clear hGG GG
  subst hE
  clear Y'
  simp only [List.cons_append, List.nil_append] at N'
  first | refine Exists.elim (Fr.some F' [("keys", .ref ka)] ⟨rfl, trivial⟩) fun u F1 => ?_ | refine and_on2 (Fr.some F' [("keys", .ref ka)] ⟨rfl, trivial⟩) fun u F1 => ?_
  clear F'
  first | refine Exists.elim (hka) fun nk hka => ?_ | refine and_on2 (hka) fun nk hka => ?_
  walk
  refine LC_assign (h₀ := g') (L := L') (m := kstB u [("keys", .ref ka)]) rfl (by rfl) (by rfl) (by decide) rfl (by decide) rfl rfl ?_
  walk
  refine lc_src_list F1 N' (N'.isList (.tail _ (.tail _ hka))) ?_
  generalize hbase : ((L' + 1 + 1, o1) :: (L' + 1, o2) :: rest : List (Addr × Obj)) = bs at N' ⊢
  have hrb : ∀ p ∈ rest, p ∈ bs := fun p hp => by rw [← hbase]; exact .tail _ (.tail _ hp)
  rintro I oI D C oC h1 tk1 hh F2 N2 hli hC nCD nCI nDI offCD offI
  have oC' : Off C bs := fun p hp => (offCD p hp).1
  have oD' : Off D bs := fun p hp => (offCD p hp).2
  clear offCD N' F1
  refine lc_loop_out_G (fun n news₁ => Ex6 fun dn td oC mc oI ne => rows = dn ++ td ∧ n = td.length ∧ news₁ = ((I, oI) :: (C, oC) :: (D, listOf (kvs adr (dn.flatMap (·.2))).toArray ne) :: bs) ∧ isLi oI ka dn.length ∧ NsObj oC mc)
    F2 (News.rot' N2) (Ex6.mk ([]) rows oC _ oI 0 ⟨rfl, rfl, rfl, hli, hC⟩) ?_
  clear F2 N2 hC hli oC oI
  intro J1 R1 hJ1 hR1 n news₁ h2 tk2 F2 N2 hJJ
  refine hJJ _ fun dn td oC mc oI ne hAA => ?_
  refine and_on5 hAA fun hrw hE1 hE2 hli hC => ?_
  clear hAA hJJ
  refine goal_G fun GG hGG => ?_
  subst hE1
  subst hE2
  refine hGG ?_
  clear hGG GG
  have nIC : I ≠ C := Ne.symm nCI
  have nID : I ≠ D := Ne.symm nDI
  have nDC : D ≠ C := Ne.symm nCD
  have hl := N2.isList (.tail _ (.tail _ (.tail _ (hrb _ hka))))
  rcases td with _ | ⟨r, td⟩
  · refine next_list_end rfl F2 N2 (Off.cons nCI (Off.cons nDI offI)) hli hl (by rw [hrw]; simp) ?_
    intro h3 F3 N3
    refine hR1 _ _ (lcd (F3) (News.swap N3) (hC) (fun p hp => ⟨oC' p hp, oD' p hp⟩) (nCD) ?_)
    rw [List.append_nil] at hrw
    subst hrw
    clear F2 N2 F3 N3 hl
    intro h4 tk4 F4 N4 o4
    subst hbase
    walk
    refine lift rfl (Nat.le_of_ble_eq_true rfl) rfl (Nat.le_of_ble_eq_true rfl) (heapify_spec B' F4 X' T' rfl N4 o4 ?_ h12 ?_)
    · intro k hk
      refine goal_G fun GG hGG => ?_
      obtain ⟨r, hr, hkr⟩ := List.mem_flatMap.mp hk
      refine hGG ?_
      clear hGG GG
      exact (hK r hr k hkr).sub hrb
    intro h5 tk5 F5 N5
    have hf := hfold_facts (fun x => x ∈ rows.flatMap (·.2)) 6 (rows.flatMap (·.2)) (by omega) (fun _ h => h)
    clear F4 N4
    walk
    rename_i P _ hlt _ F6 N6
    refine goal_G fun GG hGG => ?_
    obtain ⟨lD, l2', l1', lr⟩ := hlt
    refine hGG ?_
    clear hGG GG
    have lr' : ∀ p ∈ rest, p.1 < P := fun p hp => Nat.lt_trans (l1 p hp) (Nat.lt_trans (Nat.lt_succ_self _) l1')
    have hlen : (hfold (rows.flatMap (·.2)) 6).length = 12 := hf.1.trans h12
    refine While_G (fun n m₁ news₁ => Ex9 fun ps tl np hs nd c1 c2 v1 v2 => news₁ = ((P, listOf (pvs ps).toArray np) :: (D, listOf (kvs adr hs).toArray nd) :: (L' + 1 + 1, c1) :: (L' + 1, c2) :: (tl ++ rest)) ∧ c1.data = .cell v1 ∧ c2.data = .cell v2 ∧ AllIs m₁ [("heap", .ref D), ("pairs", .ref P)] ∧
      n = hs.length ∧ hs.length ≤ 12 ∧ ps.length ≤ 12 - hs.length ∧ (∀ k ∈ hs, k ∈ rows.flatMap (·.2)) ∧ (∀ q ∈ ps, PairIn tl q) ∧ (∀ p ∈ tl, P < p.1) ∧ (popAll hs.length hs).foldl gstep (ps.map (·.2)) = nearest (rows.flatMap (·.2))) (n₀ := 12) F6 N6
      (Ex9.mk ([]) ([]) 0 (hfold (rows.flatMap (·.2)) 6) ne o1 o2 _ _ ⟨rfl, d1, d2, ⟨rfl, rfl, trivial⟩, hlen.symm, Nat.le_of_eq hlen, Nat.zero_le _, hf.2, (fun _ h => nomatch h), (fun _ h => nomatch h), (by rw [hlen]; unfold nearest; rw [h12]; rfl)⟩) ?_
    clear F6 N6 hf lr
    intro J2 Q2 hJ2 hQ2 n m₁ news₁ h7 tk7 F7 N7 hJJ
    refine hJJ _ fun ps tl np hs nd c1 c2 v1 v2 hAA => ?_
    refine and_on11 hAA fun hE0 e1 e2 hm hE4 hle hpl hsub hps htl hres => ?_
    clear hAA hJJ
    refine goal_G fun GG hGG => ?_
    subst hE0
    subst hE4
    refine hGG ?_
    clear hGG GG
    first | refine Exists.elim (Fr.some F7 _ hm) fun u' F7 => ?_ | refine and_on2 (Fr.some F7 _ hm) fun u' F7 => ?_
    clear hm
    iterate 5 (walk1; try dsimp only)
    rename_i E0 _ F8 N8 hlt
    refine keys_ne (ps := hs.map fun k => (adr k, k)) (qs := []) (by rw [← pvs_kvs]; exact N8.isList (.tail _ (.tail _ (.head _)))) (N8.isList (.head _)) ?_ (fun _ h => nomatch h) (Nat.le_of_ble_eq_true rfl) ?_
    · intro q hq
      refine goal_G fun GG hGG => ?_
      obtain ⟨k, hk, rfl⟩ := List.mem_map.mp hq
      refine hGG ?_
      clear hGG GG
      refine goal_G fun GG hGG => ?_
      obtain ⟨r, hr, hkr⟩ := List.mem_flatMap.mp (hsub k hk)
      refine hGG ?_
      clear hGG GG
      exact KeyIn.isKey N8 ((hK r hr k hkr).sub (fun p hp => by simp [hp]))
    rw [show List.map (fun x => x.2) (hs.map fun k => (adr k, k)) = hs from by rw [List.map_map]; exact List.map_id hs, List.map_nil]
    rcases List.eq_nil_or_concat hs with rfl | ⟨hs', l, rfl⟩
    · simp only [decide_true, Bool.not_true]
      walk
      refine hQ2 _ _ ?_
      walk
      rename News h₀ L _ _ => N9
      refine h _ _ P ps np tl (by assumption) (News.sub N9 (fun p hp => ?_)) (fun p hp => ?_) hps hres lr'
      · revert p
        repeat' (first | with_reducible exact sub_nil | with_reducible exact sub_self | with_reducible exact List.mem_cons_self | with_reducible refine sub_cons ?_ ?_ | with_reducible refine sub_app ?_ ?_ | with_reducible refine List.mem_cons_of_mem _ ?_ | (with_reducible refine List.mem_append_left _ ?_; (repeat (first | with_reducible exact List.mem_cons_self | with_reducible refine List.mem_cons_of_mem _ ?_)); done) | with_reducible refine List.mem_append_right _ ?_ | with_reducible refine sub_tl ?_ | with_reducible exact sub_apl sub_self | with_reducible refine sub_apr ?_)
      · rcases List.mem_append.mp hp with hp | hp
        · exact Nat.ne_of_gt (htl p hp)
        · exact Nat.ne_of_lt (lr' p hp)
    · rw [List.concat_eq_append, show (!decide (hs' ++ [l] = [])) = true from by simp]
      rw [List.concat_eq_append] at N8 hres hpl hle hsub
      walk
      have oD : Off D ((P, listOf (pvs ps).toArray np) :: (L' + 1 + 1, c1) :: (L' + 1, c2) :: (tl ++ rest)) := Off.cons (Nat.ne_of_gt lD) (Off.cons (o4 (L' + 1 + 1, o1) (.head _)) (Off.cons (o4 (L' + 1, o2) (.tail _ (.head _))) (fun p hp => by
        rcases List.mem_append.mp hp with hp | hp
        · exact Nat.ne_of_gt (Nat.lt_trans lD (htl p hp))
        · exact o4 p (.tail _ (.tail _ hp)))))
      have N8' := News.sub N8 (r := (D, listOf (kvs adr (hs' ++ [l])).toArray nd) :: (P, listOf (pvs ps).toArray np) :: (L' + 1 + 1, c1) :: (L' + 1, c2) :: (tl ++ rest)) (fun p hp => by
        revert p
        repeat' (first | with_reducible exact sub_nil | with_reducible exact sub_self | with_reducible exact List.mem_cons_self | with_reducible refine sub_cons ?_ ?_ | with_reducible refine sub_app ?_ ?_ | with_reducible refine List.mem_cons_of_mem _ ?_ | (with_reducible refine List.mem_append_left _ ?_; (repeat (first | with_reducible exact List.mem_cons_self | with_reducible refine List.mem_cons_of_mem _ ?_)); done) | with_reducible refine List.mem_append_right _ ?_ | with_reducible refine sub_tl ?_ | with_reducible exact sub_apl sub_self | with_reducible refine sub_apr ?_))
      refine lift rfl (Nat.le_of_ble_eq_true rfl) rfl (Nat.le_of_ble_eq_true rfl) (heappop_spec (ks := hs') (l := l) B' F8 X' T' rfl N8' oD ?_ (by simp at hle; omega) ?_)
      · intro k hk
        refine goal_G fun GG hGG => ?_
        obtain ⟨r, hr, hkr⟩ := List.mem_flatMap.mp (hsub k hk)
        refine hGG ?_
        clear hGG GG
        exact (hK r hr k hkr).sub (fun p hp => by simp [hp])
      intro h9 tk9 nd9 F9 N9
      clear F8 N8 N8'
      have hk0 : hs'.getD 0 l ∈ rows.flatMap (·.2) := hsub _ (by cases hs' <;> simp)
      generalize hk0e : hs'.getD 0 l = k0 at hk0 ⊢
      refine goal_G fun GG hGG => ?_
      obtain ⟨r0, hr0, hkr0⟩ := List.mem_flatMap.mp hk0
      refine hGG ?_
      clear hGG GG
      refine goal_G fun GG hGG => ?_
      obtain ⟨oK, hmK, dK, nK, slK, t1, t2, t3, rfl⟩ := hK r0 hr0 k0 hkr0
      refine hGG ?_
      clear hGG GG
      walk
      have hT : IsTup h9 (adr k0) #[.int k0.1 t1, .int k0.2.1 t2, .int k0.2.2 t3] := ⟨_, (N9 _ (.tail _ (.tail _ (.tail _ (.tail _ (List.mem_append_right _ hmK)))))).1, rfl, _, rfl⟩
      walk
      rename Fr g' L' _ _ => F10
      rename News g' L' _ _ => N10
      have o11 : Off (L' + 1) (tl ++ rest) := fun p hp => by
        rcases List.mem_append.mp hp with hp | hp
        · exact Nat.ne_of_gt (Nat.lt_trans l1' (htl p hp))
        · exact Nat.ne_of_lt (Nat.lt_succ_of_lt (l1 p hp))
      have o12 : Off (L' + 1 + 1) (tl ++ rest) := fun p hp => by
        rcases List.mem_append.mp hp with hp | hp
        · exact Nat.ne_of_gt (Nat.lt_trans l2' (htl p hp))
        · exact Nat.ne_of_lt (Nat.lt_succ_of_lt (Nat.lt_succ_of_lt (l1 p hp)))
      have d11 : D ≠ L' + 1 := Ne.symm (o4 (L' + 1, o2) (.tail _ (.head _)))
      have d12 : D ≠ L' + 1 + 1 := Ne.symm (o4 (L' + 1 + 1, o1) (.head _))
      have n12 : L' + 1 + 1 ≠ L' + 1 := Nat.succ_ne_self _
      refine storeX_C F10 N10 rfl (UpdF.tail d11 (UpdF.tail (Nat.ne_of_gt l1') (UpdF.tail n12 (UpdF.head o11)))) e2 ?_
      intro h11 c2' F11 N11 e2'
      clear F10 N10
      walk
      refine storeX_C F11 N11 rfl (UpdF.tail d12 (UpdF.tail (Nat.ne_of_gt l2') (UpdF.head (Off.cons (Ne.symm n12) o12)))) e1 ?_
      intro h12' c1' F12 N12 e1'
      clear F11 N11
      first | refine Exists.elim (Fr.some F12 [("heap", .ref D), ("pairs", .ref P), ("way", .int k0.1 t1)] ⟨rfl, rfl, rfl, trivial⟩) fun u12 F12 => ?_ | refine and_on2 (Fr.some F12 [("heap", .ref D), ("pairs", .ref P), ("way", .int k0.1 t1)] ⟨rfl, rfl, rfl, trivial⟩) fun u12 F12 => ?_
      walk
      refine LC_eval (h₀ := g') (L := L') (m := kstB u12 [("heap", .ref D), ("pairs", .ref P), ("way", .int k0.1 t1)]) (by rfl) (by decide) rfl (by decide) ?_
      walk
      refine lc_src_list F12 N12 (N12.isList (.tail _ (.head _))) ?_
      rintro I oI Dd C oC h13 tk13 hh F13 N13 hli hC nCD nCI nDI offCD offI
      clear F12 N12
      generalize hbs : ((D, listOf (kvs adr (if hs' = [] then [] else sup (hs'.set 0 l) 0)).toArray nd9) :: (P, listOf (pvs ps).toArray np) :: (L' + 1 + 1, c1') :: (L' + 1, c2') :: (tl ++ rest) : List (Addr × Obj)) = bs at N13 offCD offI ⊢
      have mP : (P, listOf (pvs ps).toArray np) ∈ bs := by rw [← hbs]; simp
      have m1 : (L' + 1 + 1, c1') ∈ bs := by rw [← hbs]; simp
      have m2 : (L' + 1, c2') ∈ bs := by rw [← hbs]; simp
      have mt : ∀ p ∈ tl, p ∈ bs := fun p hp => by rw [← hbs]; simp [hp]
      have oCb : Off C bs := fun p hp => (offCD p hp).1
      have oDb : Off Dd bs := fun p hp => (offCD p hp).2
      have nIC : I ≠ C := Ne.symm nCI
      have nID : I ≠ Dd := Ne.symm nDI
      have nDC : Dd ≠ C := Ne.symm nCD
      refine lc_loop_G (fun n news₁ => Ex6 fun dn td oC mc oI ne => ps = dn ++ td ∧ n = td.length ∧ news₁ = ((I, oI) :: (C, oC) :: (Dd, listOf (pvs (dn.filter fun q => q.2.2.1 == k0.2.1 || q.2.2.2 == k0.2.2)).toArray ne) :: bs) ∧ isLi oI P dn.length ∧ NsObj oC mc)
        F13 (News.rot' N13) (Ex6.mk ([]) ps oC _ oI 0 ⟨rfl, rfl, rfl, hli, hC⟩) ?_
      clear F13 N13 hC hli oC oI
      intro J3 R3 hJ3 hR3 n news₁ h14 tk14 F14 N14 hJJ
      refine hJJ _ fun dn td oC mc oI ne hAA => ?_
      refine and_on5 hAA fun hpd hE1 hE2 hli hC => ?_
      clear hAA hJJ
      refine goal_G fun GG hGG => ?_
      subst hE1
      subst hE2
      refine hGG ?_
      clear hGG GG
      have hl := N14.isList (.tail _ (.tail _ (.tail _ mP)))
      rcases td with _ | ⟨q, td⟩
      · refine next_list_end rfl F14 N14 (Off.cons nCI (Off.cons nDI offI)) hli hl (by rw [hpd]; simp) ?_
        intro h15 F15 N15
        refine hR3 _ _ (lcd (F15) (News.swap N15) (hC) (fun p hp => ⟨oCb p hp, oDb p hp⟩) (nCD) ?_)
        rw [List.append_nil] at hpd
        subst hpd
        clear F14 N14 F15 N15 hl
        intro h16 tk16 F16 N16 o16
        iterate 3 (walk1; try dsimp only)
        rename_i E1 _ F17 N17 hlt17
        refine keys_eq (ps := ps.filter fun q => q.2.2.1 == k0.2.1 || q.2.2.2 == k0.2.2) (qs := []) (N17.isList (.tail _ (.head _))) (N17.isList (.head _)) ?_ (fun _ h => nomatch h) (Nat.le_of_ble_eq_true rfl) ?_
        · intro q hq
          exact PairIn.isKey N17 ((hps q (List.mem_filter.mp hq).1).sub (fun p hp => .tail _ (.tail _ (mt p hp))))
        have hp2 : popAll (hs' ++ [l]).length (hs' ++ [l]) = k0 :: popAll hs'.length (if hs' = [] then [] else sup (hs'.set 0 l) 0) := by
          rw [List.length_append, List.length_singleton]
          rw [show popAll (hs'.length + 1) (hs' ++ [l]) = (hs' ++ [l]).dropLast.getD 0 ((hs' ++ [l]).getLastD (0, 0, 0)) :: popAll hs'.length (if (hs' ++ [l]).dropLast = [] then [] else sup ((hs' ++ [l]).dropLast.set 0 ((hs' ++ [l]).getLastD (0, 0, 0))) 0) from rfl]
          rw [List.dropLast_concat, show (hs' ++ [l]).getLastD (0, 0, 0) = l from by simp [List.getLastD_eq_getLast?], hk0e]
        have hs2f : (if hs' = [] then [] else sup (hs'.set 0 l) 0).length = hs'.length ∧ ∀ k ∈ (if hs' = [] then [] else sup (hs'.set 0 l) 0), k ∈ rows.flatMap (·.2) := by
          by_cases hn : hs' = []
          · rw [if_pos hn, hn]; exact ⟨rfl, fun _ h => nomatch h⟩
          · rw [if_neg hn]
            have hpos : 0 < hs'.length := List.length_pos_iff.mpr hn
            have f := sup_facts (fun x => x ∈ rows.flatMap (·.2)) (hs'.set 0 l) 0 (by simpa using hpos) (fun k hk => by
              rcases List.mem_or_eq_of_mem_set hk with hk | rfl
              · exact hsub _ (List.mem_append_left _ hk)
              · exact hsub _ (by simp))
            exact ⟨by rw [f.1, List.length_set], f.2⟩
        rw [hp2, List.foldl_cons] at hres
        generalize (if hs' = [] then [] else sup (hs'.set 0 l) 0) = hs2 at hres hs2f hbs
        rw [← hs2f.1] at hres
        have hle2 : hs2.length + 1 ≤ 12 := by rw [hs2f.1]; simpa using hle
        have hpl2 : ps.length ≤ 12 - (hs2.length + 1) := by rw [hs2f.1]; simpa using hpl
        have hclash : decide (List.map (fun x => x.2) (ps.filter fun q => q.2.2.1 == k0.2.1 || q.2.2.2 == k0.2.2) = List.map (fun x : Addr × Key => x.2) []) = !clash (ps.map (·.2)) k0 := clash_filter ps k0
        rw [hclash]
        subst hbs
        cases hcb : clash (ps.map (·.2)) k0 with
        | true =>
          simp only [Bool.not_true]
          walk
          rename Fr g' L' _ _ => F18
          rename News g' L' _ _ => N18
          rw [show gstep (ps.map (·.2)) k0 = ps.map (·.2) from by unfold gstep; rw [hcb]; rfl] at hres
          first | refine ws_next (n' := hs2.length) (F18) (News.sub N18 (r := (P, listOf (pvs ps).toArray np) :: (D, listOf (kvs adr hs2).toArray nd9) :: (L' + 1 + 1, c1') :: (L' + 1, c2') :: (tl ++ rest)) (fun p hp => ?_)) (by rw [hs2f.1]; simp) (hJ2 _ _ _ (Ex9.mk ps tl np hs2 nd9 c1' c2' _ _ ⟨rfl, e1', e2', ⟨rfl, rfl, trivial⟩, rfl, by omega, by omega, hs2f.2, hps, htl, hres⟩)) | refine ws_cont (n' := hs2.length) (F18) (News.sub N18 (r := (P, listOf (pvs ps).toArray np) :: (D, listOf (kvs adr hs2).toArray nd9) :: (L' + 1 + 1, c1') :: (L' + 1, c2') :: (tl ++ rest)) (fun p hp => ?_)) (by rw [hs2f.1]; simp) (hJ2 _ _ _ (Ex9.mk ps tl np hs2 nd9 c1' c2' _ _ ⟨rfl, e1', e2', ⟨rfl, rfl, trivial⟩, rfl, by omega, by omega, hs2f.2, hps, htl, hres⟩))
          revert p
          repeat' (first | with_reducible exact sub_nil | with_reducible exact sub_self | with_reducible exact List.mem_cons_self | with_reducible refine sub_cons ?_ ?_ | with_reducible refine sub_app ?_ ?_ | with_reducible refine List.mem_cons_of_mem _ ?_ | (with_reducible refine List.mem_append_left _ ?_; (repeat (first | with_reducible exact List.mem_cons_self | with_reducible refine List.mem_cons_of_mem _ ?_)); done) | with_reducible refine List.mem_append_right _ ?_ | with_reducible refine sub_tl ?_ | with_reducible exact sub_apl sub_self | with_reducible refine sub_apr ?_)
        | false =>
          simp only [Bool.not_false]
          walk
          rename_i D2 _ F18 N18 hlt18
          refine goal_G fun GG hGG => ?_
          obtain ⟨_, _, ltD, ltP, lt2, lt1, ltr⟩ := hlt18
          refine hGG ?_
          clear hGG GG
          rw [show gstep (ps.map (·.2)) k0 = (ps ++ [(D2, k0)]).map (·.2) from by unfold gstep; rw [hcb]; simp] at hres
          have N19 := News.sub N18 (r := (P, listOf (pvs ps).toArray np) :: (D, listOf (kvs adr hs2).toArray nd9) :: (L' + 1 + 1, c1') :: (L' + 1, c2') :: (((D2, { cls := .type "tuple", data := .seq #[.int k0.1 t1, .int k0.2.1 t2, .int k0.2.2 t3] }) :: tl) ++ rest)) (fun p hp => by
            revert p
            repeat' (first | with_reducible exact sub_nil | with_reducible exact sub_self | with_reducible exact List.mem_cons_self | with_reducible refine sub_cons ?_ ?_ | with_reducible refine sub_app ?_ ?_ | with_reducible refine List.mem_cons_of_mem _ ?_ | (with_reducible refine List.mem_append_left _ ?_; (repeat (first | with_reducible exact List.mem_cons_self | with_reducible refine List.mem_cons_of_mem _ ?_)); done) | with_reducible refine List.mem_append_right _ ?_ | with_reducible refine sub_tl ?_ | with_reducible exact sub_apl sub_self | with_reducible refine sub_apr ?_))
          refine lc_append F18 N19 (Off.cons (Nat.ne_of_lt lD) (Off.cons (Nat.ne_of_lt l2') (Off.cons (Nat.ne_of_lt l1') (Off.cons (Nat.ne_of_gt ltP) (fun p hp => ?_))))) (by simp only [List.length_map]; omega) ?_
          · rcases List.mem_append.mp hp with hp | hp
            · exact Nat.ne_of_gt (htl p hp)
            · exact Nat.ne_of_lt (lr' p hp)
          intro h19 F19 N20
          clear F18 N18 N19
          walk
          rename Fr g' L' _ _ => F20
          rename News g' L' _ _ => N21
          first | refine ws_next (n' := hs2.length) (F20) (N21) (by rw [hs2f.1]; simp) (hJ2 _ _ _ (Ex9.mk (ps ++ [(D2, k0)]) ((D2, { cls := .type "tuple", data := .seq #[.int k0.1 t1, .int k0.2.1 t2, .int k0.2.2 t3] }) :: tl) (np + 1) hs2 nd9 c1' c2' _ _ ⟨by simp, e1', e2', ⟨rfl, rfl, trivial⟩, rfl, by omega, by simp; omega, hs2f.2, ?_, ?_, hres⟩)) | refine ws_cont (n' := hs2.length) (F20) (N21) (by rw [hs2f.1]; simp) (hJ2 _ _ _ (Ex9.mk (ps ++ [(D2, k0)]) ((D2, { cls := .type "tuple", data := .seq #[.int k0.1 t1, .int k0.2.1 t2, .int k0.2.2 t3] }) :: tl) (np + 1) hs2 nd9 c1' c2' _ _ ⟨by simp, e1', e2', ⟨rfl, rfl, trivial⟩, rfl, by omega, by simp; omega, hs2f.2, ?_, ?_, hres⟩))
          · intro q hq
            rcases List.mem_append.mp hq with hq | hq
            · exact (hps q hq).sub (fun p hp => .tail _ hp)
            · rw [List.mem_singleton.mp hq]
              exact ⟨_, .head _, _, _, _, t1, t2, t3, rfl⟩
          · intro p hp
            rcases List.mem_cons.mp hp with rfl | hp
            · exact ltP
            · exact htl p hp
      · refine next_list F14 N14 (Off.cons nCI (Off.cons nDI offI)) hli hl (by rw [hpd]; simp) ?_
        intro h15 oI15 hli15 F15 N15
        rw [show (pvs ps).getD dn.length Value.none = .ref q.1 from by rw [hpd]; simp [pvs]]
        dsimp only
        refine lc_store rfl rfl F15 (News.swap N15) hC (Off.cons nIC (Off.cons nDC oCb)) ?_
        intro oC16 h16 hC16 F16 N16
        clear F14 N14 F15 N15 hl
        refine goal_G fun GG hGG => ?_
        obtain ⟨oq, hmq, dq, nq, slq, u1, u2, u3, rfl⟩ := hps q (by rw [hpd]; simp)
        refine hGG ?_
        clear hGG GG
        have hTq : IsTup h16 q.1 [.int q.2.1 u1, .int q.2.2.1 u2, .int q.2.2.2 u3].toArray := ⟨_, (N16 _ (.tail _ (.tail _ (.tail _ (mt _ hmq))))).1, rfl, _, rfl⟩
        refine wpAny_tests_one ?_
        refine isTrue_or ?_
        iterate 2 (walk1; try dsimp only)
        refine LCgL.ld_own N16 (.head _) hC16 rfl ?_
        walk1
        refine item_tupleT hTq (by decide) (by decide) rfl rfl ?_
        refine ld_cellC N16 rfl (.tail _ (.tail _ (.tail _ m2))) e2' ?_
        iterate 2 (walk1; try dsimp only)
        cases hc1 : (q.2.2.1 == k0.2.1) with
        | true =>
          simp only [if_true]
          refine LCgL.ld_own N16 (.head _) hC16 rfl ?_
          refine lc_append F16 (News.rot' N16) (Off.cons nCD (Off.cons nID oDb)) ?_ ?_
          · simp only [List.length_map]
            have := List.length_filter_le (fun q : Addr × Key => q.2.2.1 == k0.2.1 || q.2.2.2 == k0.2.2) dn
            have e5 : dn.length ≤ ps.length := by rw [hpd]; simp
            omega
          intro h17 F17 N17
          refine lcs (n' := td.length) (F17) (News.swap (News.rot N17)) (by simp) (hJ3 _ _ (Ex6.mk (dn ++ [q]) td oC16 _ oI15 (ne + 1) ⟨by rw [hpd]; simp, rfl, ?_, by simpa using hli15, hC16⟩))
          rw [List.filter_append, List.filter_cons, List.filter_nil, show (q.2.2.1 == k0.2.1 || q.2.2.2 == k0.2.2) = true from by rw [hc1]; rfl]
          simp
        | false =>
          simp only [Bool.false_eq_true, if_false]
          refine isTrue_or ?_
          iterate 2 (walk1; try dsimp only)
          refine LCgL.ld_own N16 (.head _) hC16 rfl ?_
          walk1
          refine item_tupleT hTq (by decide) (by decide) rfl rfl ?_
          refine ld_cellC N16 rfl (.tail _ (.tail _ (.tail _ m1))) e1' ?_
          iterate 2 (walk1; try dsimp only)
          cases hc2 : (q.2.2.2 == k0.2.2) with
          | true =>
            simp only [if_true]
            refine LCgL.ld_own N16 (.head _) hC16 rfl ?_
            refine lc_append F16 (News.rot' N16) (Off.cons nCD (Off.cons nID oDb)) ?_ ?_
            · simp only [List.length_map]
              have := List.length_filter_le (fun q : Addr × Key => q.2.2.1 == k0.2.1 || q.2.2.2 == k0.2.2) dn
              have e5 : dn.length ≤ ps.length := by rw [hpd]; simp
              omega
            intro h17 F17 N17
            refine lcs (n' := td.length) (F17) (News.swap (News.rot N17)) (by simp) (hJ3 _ _ (Ex6.mk (dn ++ [q]) td oC16 _ oI15 (ne + 1) ⟨by rw [hpd]; simp, rfl, ?_, by simpa using hli15, hC16⟩))
            rw [List.filter_append, List.filter_cons, List.filter_nil, show (q.2.2.1 == k0.2.1 || q.2.2.2 == k0.2.2) = true from by rw [hc1, hc2]; rfl]
            simp
          | false =>
            simp only [Bool.false_eq_true, if_false]
            refine isTrue_or_nil ?_
            simp only [Bool.false_eq_true, if_false]
            refine lcs (n' := td.length) (F16) (News.swap N16) (by simp) (hJ3 _ _ (Ex6.mk (dn ++ [q]) td oC16 _ oI15 ne ⟨by rw [hpd]; simp, rfl, ?_, by simpa using hli15, hC16⟩))
            rw [List.filter_append, List.filter_cons, List.filter_nil, show (q.2.2.1 == k0.2.1 || q.2.2.2 == k0.2.2) = false from by rw [hc1, hc2]; rfl]
            simp
  · have hr : r ∈ rows := by rw [hrw]; simp
    first | refine Exists.elim (hrows r hr) fun nr hrm => ?_ | refine and_on2 (hrows r hr) fun nr hrm => ?_
    refine next_list F2 N2 (Off.cons nCI (Off.cons nDI offI)) hli hl (by rw [hrw]; simp) ?_
    intro h3 oI3 hli3 F3 N3
    rw [getD_refs rows dn.length r (by rw [hrw]; simp)]
    dsimp only
    refine lc_store rfl rfl F3 (News.swap N3) hC (Off.cons nIC (Off.cons nDC oC')) ?_
    intro oC4 h4 hC4 F4 N4
    clear F2 N2 F3 N3 hl
    refine wpAny_tests_nil ?_
    refine ifT rfl ?_
    refine LCgL.ld_own N4 (.head _) hC4 rfl ?_
    refine wpAny_pyIter_list (N4.isList (.tail _ (.tail _ (.tail _ (hrb _ hrm))))) ?_
    refine and_on3 (led_new (o := { cls := .type "list_iterator", data := .fields #[.ref r.1, .int 0 0] }) F4 N4 rfl) fun F5 N5 off5 => ?_
    dsimp only
    generalize hI2 : Array.size _ = I2 at N5 off5 ⊢
    refine compStart_in' (fun Q' E' hq => wpAny_pyIter_listiter (i := 0) ⟨_, (N5 _ (.head _)).1, rfl, rfl⟩ hq) ?_
    have n2C : C ≠ I2 := off5 (C, oC4) (.head _)
    have n2I : I ≠ I2 := off5 (I, oI3) (.tail _ (.head _))
    have n2D : D ≠ I2 := off5 (D, _) (.tail _ (.tail _ (.head _)))
    have off2 : Off I2 bs := fun p hp => off5 p (.tail _ (.tail _ (.tail _ hp)))
    refine lc_loop_in_G (fun n news₁ => Ex6 fun dk tk' oC mc o2 ne => r.2 = dk ++ tk' ∧ n = tk'.length ∧ news₁ = ((I2, o2) :: (C, oC) :: (D, listOf (kvs adr (dn.flatMap (·.2) ++ dk)).toArray ne) :: (I, oI3) :: bs) ∧ isLi o2 r.1 dk.length ∧ NsObj oC mc)
      F5 (News.sub N5 (r := (I2, { cls := .type "list_iterator", data := .fields #[.ref r.1, .int 0 0] }) :: (C, oC4) :: (D, listOf (kvs adr (dn.flatMap (·.2) ++ [])).toArray ne) :: (I, oI3) :: bs) (fun p hp => by
        simp only [List.mem_cons, List.append_nil] at hp ⊢
        rcases hp with h | h | h | h | h <;> simp [h])) (Ex6.mk ([]) (r.2) oC4 _ _ ne ⟨rfl, rfl, rfl, ⟨rfl, rfl⟩, hC4⟩) ?_
    clear F4 N4 F5 N5 off5 hC4 oC4 hC oC
    intro J4 R4 hJ4 hR4 n news₁ h6 tk6 F6 N6 hJJ
    refine hJJ _ fun dk tk' oC mc o2 ne hAA => ?_
    refine and_on5 hAA fun hrk hE1 hE2 hli2 hC => ?_
    clear hAA hJJ
    refine goal_G fun GG hGG => ?_
    subst hE1
    subst hE2
    refine hGG ?_
    clear hGG GG
    have hl2 := N6.isList (.tail _ (.tail _ (.tail _ (.tail _ (hrb _ hrm)))))
    have oI2 : Off I2 ((C, oC) :: (D, listOf (kvs adr (dn.flatMap (·.2) ++ dk)).toArray ne) :: (I, oI3) :: bs) := Off.cons n2C (Off.cons n2D (Off.cons n2I off2))
    rcases tk' with _ | ⟨k, tk'⟩
    · refine next_list_end rfl F6 N6 oI2 hli2 hl2 (by rw [hrk]; simp) ?_
      intro h7 F7 N7
      rw [List.append_nil] at hrk
      refine hR4 _ _ (lcs (n' := td.length) (F7) (News.rot' N7) (by simp) (hJ1 _ _ (Ex6.mk (dn ++ [r]) td oC mc oI3 ne ⟨by rw [hrw]; simp, rfl, ?_, by simpa using hli3, hC⟩)))
      simp [hrk]
    · refine next_list F6 N6 oI2 hli2 hl2 (by rw [hrk]; simp) ?_
      intro h7 o7 hli7 F7 N7
      rw [getD_kvs adr r.2 dk.length (by rw [hrk]; simp), show r.2.getD dk.length (0, 0, 0) = k from by rw [hrk]; simp]
      dsimp only
      refine lc_store rfl rfl F7 (News.swap N7) hC (Off.cons (Ne.symm n2C) (Off.cons nDC (Off.cons nIC oC'))) ?_
      intro oC8 h8 hC8 F8 N8
      refine wpAny_tests_nil ?_
      refine ifT rfl ?_
      refine LCgL.ld_own N8 (.head _) hC8 rfl ?_
      refine lc_append F8 (News.rot' N8) (Off.cons nCD (Off.cons (Ne.symm n2D) (Off.cons nID oD'))) ?_ ?_
      · have e1 : (rows.flatMap (·.2)).length = 12 := by assumption
        rw [hrw, List.flatMap_append, List.flatMap_cons, List.length_append, List.length_append, hrk, List.length_append] at e1
        simp only [List.length_map, List.length_append]
        omega
      intro h9 F9 N9
      refine lcs (n' := tk'.length) (F9) (News.swap (News.rot N9)) (by simp) (hJ4 _ _ (Ex6.mk (dk ++ [k]) tk' oC8 _ o7 (ne + 1) ⟨by rw [hrk]; simp, rfl, ?_, by simpa using hli7, hC8⟩))
      simp
end
section
open PyProof.Rows.LCg (NsObj ns_obj)


noncomputable def RowIn (l : List (Addr × Obj)) (adr : Key → Addr) (r : Addr × List Key) : Prop := ∃ n, (r.1, listOf (kvs adr r.2).toArray n) ∈ l
/-- the rows behind the j-th turn -/
noncomputable def free (row : List Key) (i : Nat) : Bool := !(row.any fun k => k.2.1 == (i : Int))
noncomputable def ext (tbl : Nat → Nat → Key) (j : Nat) (row : List Key) : List (List Key) := ((List.range 4).filter fun i => free row i).map fun i => row ++ [tbl i j]
noncomputable def lrows (tbl : Nat → Nat → Key) : Nat → List (List Key)
  | 0 => [[]]
  | j + 1 => (lrows tbl j).flatMap (ext tbl j)

theorem any_are (i : Int) : ∀ {vs : List Value} {ns : List Int}, IntsAre vs ns → (vs.any fun y => match y with | .int a _ => a == i | _ => false) = ns.any (· == i)
  | _, _, .nil => rfl
  | _, _, .cons n t h => by rw [List.any_cons, List.any_cons, any_are i h]
theorem lrows_mem (tbl : Nat → Nat → Key) : ∀ (j : Nat), ∀ row ∈ lrows tbl j, row.length = j ∧ ∀ k ∈ row, ∃ i, i < 4 ∧ ∃ j', j' < j ∧ k = tbl i j'
  | 0, row, h => by
    rw [lrows, List.mem_singleton] at h
    subst h
    exact ⟨rfl, fun _ h => nomatch h⟩
  | j + 1, row, h => by
    rw [lrows] at h
    refine goal_G fun GG hGG => ?_
    obtain ⟨r0, h0, h1⟩ := List.mem_flatMap.mp h
    refine hGG ?_
    clear hGG GG
    refine goal_G fun GG hGG => ?_
    obtain ⟨i, hi, rfl⟩ := List.mem_map.mp h1
    refine hGG ?_
    clear hGG GG
    have ih := lrows_mem tbl j r0 h0
    refine ⟨by simp [ih.1], fun k hk => ?_⟩
    rcases List.mem_append.mp hk with hk | hk
    · refine goal_G fun GG hGG => ?_
      obtain ⟨i', h1, j', h2, h3⟩ := ih.2 k hk
      refine hGG ?_
      clear hGG GG
      exact ⟨i', h1, j', by lia, h3⟩
    · exact ⟨i, by simpa using (List.mem_filter.mp hi).1, j, by lia, List.mem_singleton.mp hk⟩

theorem ext_len (tbl : Nat → Nat → Key) (j : Nat) (row : List Key) : (ext tbl j row).length ≤ 4 := by
  unfold ext
  rw [List.length_map]
  exact Nat.le_trans (List.length_filter_le _ _) (by simp)
theorem flat_len {α : Type} (f : α → List (List Key)) (hf : ∀ a, (f a).length ≤ 4) : ∀ l : List α, (l.flatMap f).length ≤ 4 * l.length
  | [] => by simp
  | a :: l => by
    have h1 := flat_len f hf l
    have h2 := hf a
    rw [List.flatMap_cons, List.length_append, List.length_cons]
    lia
theorem lrows_len (tbl : Nat → Nat → Key) : ∀ j, (lrows tbl j).length ≤ 4 ^ j
  | 0 => by simp [lrows]
  | j + 1 => by
    have h1 := lrows_len tbl j
    have h2 := flat_len (ext tbl j) (ext_len tbl j) (lrows tbl j)
    rw [lrows, Nat.pow_succ]
    lia

theorem len3 {α : Type} {l : List α} (h : l.length = 3) : ∃ a b c, l = [a, b, c] := by
  rcases l with _ | ⟨a, _ | ⟨b, _ | ⟨c, _ | ⟨d, l⟩⟩⟩⟩
  · simp at h
  · simp at h
  · simp at h
  · exact ⟨a, b, c, rfl⟩
  · simp at h
theorem perm3_len : ∀ x y z : Bool, (perm3 x y z).length = 3 := by decide +kernel
theorem lrows_pos (tbl : Nat → Nat → Key) : ∀ (j : Nat), ∀ row ∈ lrows tbl j, ∀ j', j' < j → ∃ i, i < 4 ∧ row.getD j' (0, 0, 0) = tbl i j'
  | 0, _, _, _, h => absurd h (Nat.not_lt_zero _)
  | j + 1, row, h, j', hj => by
    rw [lrows] at h
    refine goal_G fun GG hGG => ?_
    obtain ⟨r0, h0, h1⟩ := List.mem_flatMap.mp h
    refine hGG ?_
    clear hGG GG
    refine goal_G fun GG hGG => ?_
    obtain ⟨i, hi, rfl⟩ := List.mem_map.mp h1
    refine hGG ?_
    clear hGG GG
    have hl := (lrows_mem tbl j r0 h0).1
    by_cases e : j' = j
    · subst e
      exact ⟨i, by simpa using (List.mem_filter.mp hi).1, by simp [← hl]⟩
    · refine goal_G fun GG hGG => ?_
      obtain ⟨i', h3, h4⟩ := lrows_pos tbl j r0 h0 j' (by lia)
      refine hGG ?_
      clear hGG GG
      refine ⟨i', h3, ?_⟩
      rw [← h4]
      simp [List.getD, List.getElem?_append_left (show j' < r0.length by lia)]
noncomputable def srt : List Key → List Key
  | [a, b, c] => sort3 a b c
  | l => l
noncomputable def minK (best r : List Key) : List Key := if keysLt r best then r else best
noncomputable def leastOf (tbl : Nat → Nat → Key) : List Key := match (lrows tbl 3).map srt with
  | [] => []
  | r :: t => t.foldl minK r
theorem minStep_keys : ∀ (td : List Rw) (r : Rw), (td.foldl minStep r).2.map (·.2) = (td.map fun r => r.2.map (·.2)).foldl minK (r.2.map (·.2))
  | [], _ => rfl
  | x :: td, r => by
    rw [List.foldl_cons, minStep_keys td, List.map_cons, List.foldl_cons]
    congr 1
    unfold minStep minK
    split <;> rfl
theorem minStep_mem : ∀ (td : List Rw) (r : Rw), td.foldl minStep r ∈ r :: td
  | [], r => .head _
  | x :: td, r => by
    rw [List.foldl_cons]
    have h := minStep_mem td (minStep r x)
    unfold minStep at h ⊢
    rcases List.mem_cons.mp h with h | h
    · rw [h]; split <;> simp
    · exact .tail _ (.tail _ h)

theorem least_spec {w : World} {gd : Option (List Code)} {cn : Str} {cs : Scope} {a : Addr} {ccd : Value} {cl : List (Str × Addr)} {outer : List Env} {A₀ : Around} {base h₀ : Heap} {L : Addr} {m : Str → Option Value} {rest : List (Addr × Obj)} {s : Shared} {Q E : Value → Shared → Prop} {p : Program} {loose : List Str} {mean : ExcName → Option Value} {mg mb : Str → Option Value} {ka : Addr} {adr : Key → Addr} {rows : List (Addr × List Key)}
    (B : Below A₀ base outer h₀) (F : Fr h₀ L s.heap m) (X₀ : (Mine.hd.heap_1 w.params).In h₀) (T : Top p loose mean mg mb h₀) (hk : cs.kind = .function) (N : News h₀ L s.heap rest)
    (hka : ∃ n, (ka, listOf (rows.map fun r => Value.ref r.1).toArray n) ∈ rest) (hrows : ∀ r ∈ rows, ∃ n, (r.1, listOf (kvs adr r.2).toArray n) ∈ rest)
    (hK : ∀ r ∈ rows, ∀ k ∈ r.2, KeyIn rest adr k) (h4 : rows.length = 4) (h3 : ∀ r ∈ rows, r.2.length = 3)
    (hJ : ∀ i, i < 4 → ∀ j, j < 3 → ((rows.getD i (0, [])).2.getD j (0, 0, 0)).2.2 = (j : Int)) (hne : lrows (fun i j => (rows.getD i (0, [])).2.getD j (0, 0, 0)) 3 ≠ [])
    (h : ∀ h' tk' P ps n' tl, Fr h₀ L h' m → News h₀ L h' (tl ++ rest) → (P, listOf (pvs ps).toArray n') ∈ tl → (∀ q ∈ ps, PairIn rest q) → ps.map (·.2) = leastOf (fun i j => (rows.getD i (0, [])).2.getD j (0, 0, 0)) → Q (.ref P) { s with heap := h', toks := tk' }) :
    wpAny (model PySem.Challenge.rw_pg0112_01.row.prog w) (Ar 840 4700 (envX cn cs L a ccd cl :: outer) gd) (call (.ref 130) [.ref ka]) Q E s := by
  revert X₀; k_fill; intro X₀
  refine wpAny_call ?_
  refine code_defC B F X₀ N T rfl rfl hk (by k_is) (by k_is) (by k_room) (BindsTo.of_eq rfl) rfl (by decide +kernel) ?_ rfl rfl rfl
  intro g' L' h' tk' cells' FG F' N' Y' B' X' T' l1
  try dsimp only
  try k_fold
  refine goal_G fun GG hGG => ?_
  obtain ⟨o1, o2, hE, d1, d2⟩ := CellsAre.two Y'
  refine hGG ?_
  clear hGG GG
  subst hE
  clear Y'
  simp only [List.cons_append, List.nil_append] at N'
  have e2 : o2.data = .cell (some (.ref ka)) := d2
  first | refine Exists.elim (hka) fun nk hka => ?_ | refine and_on2 (hka) fun nk hka => ?_
  first | refine Exists.elim (Fr.some F' [] trivial) fun u F1 => ?_ | refine and_on2 (Fr.some F' [] trivial) fun u F1 => ?_
  clear F' d2
  walk
  rename_i R0 _ lt0 R1 _ lt1 _ F2 N2
  refine wpAny_For ?_
  walk
  rename IsRange _ _ _ _ _ _ _ _ => hR
  rename Fr g' L' _ _ => F3
  rename News g' L' _ _ => N3
  refine wpAny_pyIter_range hR (by decide +kernel) ?_
  rw [show Builtin.Range.rangeSize 0 3 1 = 3 from by decide]
  refine and_on3 (led_new (o := riObj 0 3 1) F3 N3 rfl) fun F4 N4 ne4 => ?_
  dsimp only
  generalize hI : Array.size _ = I at N4 ne4 ⊢
  replace hJ : ∀ i, i < 4 → ∀ j, j < 3 → ((fun i j => (rows.getD i (0, [])).2.getD j (0, 0, 0) : Nat → Nat → Key) i j).2.2 = (j : Int) := hJ
  generalize htb : (fun i j => (rows.getD i (0, [])).2.getD j (0, 0, 0) : Nat → Nat → Key) = tbl at hJ hne h
  have hT : ∀ i, i < 4 → ∀ j, j < 3 → KeyIn rest adr (tbl i j) := fun i hi j hj => by
    rw [← htb]
    have h5 : rows.getD i (0, []) ∈ rows := by simp [List.getD, show i < rows.length by lia]
    have h6 := h3 _ h5
    exact hK _ h5 _ (getD_mem _ _ (by lia))
  have nR1 : R1 ≠ I := ne4 _ (.head _)
  have nR0 : R0 ≠ I := ne4 _ (.tail _ (.head _))
  have nc1 : L' + 1 + 1 ≠ I := ne4 (L' + 1 + 1, o1) (.tail _ (.tail _ (.head _)))
  have nc2 : L' + 1 ≠ I := ne4 (L' + 1, o2) (.tail _ (.tail _ (.tail _ (.head _))))
  have oIr : Off I rest := fun p hp => ne4 p (.tail _ (.tail _ (.tail _ (.tail _ hp))))
  have ocr : Off (L' + 1 + 1) rest := fun p hp => Nat.ne_of_lt (Nat.lt_succ_of_lt (Nat.lt_succ_of_lt (l1 p hp)))
  refine For_G (fun n m₁ news₁ => Ex7 fun (j : Nat) (R : Addr) (rws : List (Addr × List Key)) (tl : List (Addr × Obj)) (nr : Nat) (c1 : Obj) (v1 : Option Value) => j + n = 3 ∧ news₁ = ((I, riObj j (3 - j) 1) :: (R, listOf (rws.map fun r => Value.ref r.1).toArray nr) :: (L' + 1 + 1, c1) :: (L' + 1, o2) :: (tl ++ rest)) ∧ c1.data = .cell v1 ∧ AllIs m₁ [("rows", .ref R)] ∧
    (∀ r ∈ rws, RowIn tl adr r) ∧ rws.map (·.2) = lrows tbl j ∧ (R ≠ I ∧ R ≠ L' + 1 + 1) ∧ (∀ p ∈ tl, p.1 ≠ I ∧ p.1 ≠ L' + 1 + 1)) (n₀ := 3) F4 (News.sub N4 (r := (I, riObj 0 3 1) :: (R1, listOf #[.ref R0] 0) :: (L' + 1 + 1, o1) :: (L' + 1, o2) :: ([(R0, listOf #[] 0)] ++ rest)) (fun p hp => by grind))
    (Ex7.mk 0 R1 ([(R0, [])]) ([(R0, listOf #[] 0)]) 0 o1 _ ⟨rfl, rfl, d1, ⟨rfl, trivial⟩, (fun r hr => by rw [List.mem_singleton.mp hr]; exact ⟨0, .head _⟩), rfl, ⟨nR1, Nat.ne_of_gt lt1.2.1⟩, (fun p hp => by rw [List.mem_singleton.mp hp]; exact ⟨nR0, Nat.ne_of_gt lt0.1⟩)⟩) ?_
  clear F4 N4 F3 N3 hR
  intro J1 Q1 hJ1 hQ1 n m₁ news₁ h5 tk5 F5 N5 hJJ
  refine hJJ _ fun j R rws tl nr c1 v1 hAA => ?_
  refine and_on8 hAA fun hjn hE1 e1 hm hrw hlr hRn htl => ?_
  clear hAA hJJ
  refine goal_G fun GG hGG => ?_
  subst hE1
  refine hGG ?_
  clear hGG GG
  first | refine Exists.elim (Fr.some F5 _ hm) fun u5 F5 => ?_ | refine and_on2 (Fr.some F5 _ hm) fun u5 F5 => ?_
  clear hm
  have oI5 : Off I ((R, listOf (rws.map fun r => Value.ref r.1).toArray nr) :: (L' + 1 + 1, c1) :: (L' + 1, o2) :: (tl ++ rest)) := fun p hp => by
    simp only [List.mem_cons, List.mem_append] at hp
    rcases hp with rfl | rfl | rfl | hp | hp
    · exact hRn.1
    · exact nc1
    · exact nc2
    · exact (htl p hp).1
    · exact oIr p hp
  rcases n with _ | n
  · have hj3 : j = 3 := by lia
    subst hj3
    refine next_range_end rfl F5 N5 oI5 (by decide) ?_
    intro h6 F6 N6
    refine hQ1 _ _ ?_
    clear F5 N5
    walk
    refine LC_eval (h₀ := g') (L := L') (m := kstB u5 [("rows", .ref R)]) (by rfl) (by decide) rfl (by decide) ?_
    walk
    refine lc_src_list F6 N6 (N6.isList (.head _)) ?_
    generalize hbs : ((R, listOf (rws.map fun r => Value.ref r.1).toArray nr) :: (L' + 1 + 1, c1) :: (L' + 1, o2) :: (tl ++ rest) : List (Addr × Obj)) = bs at N6 ⊢
    have mR : (R, listOf (rws.map fun r => Value.ref r.1).toArray nr) ∈ bs := by rw [← hbs]; simp
    have mt : ∀ p ∈ tl, p ∈ bs := fun p hp => by rw [← hbs]; simp [hp]
    have mr : ∀ p ∈ rest, p ∈ bs := fun p hp => by rw [← hbs]; simp [hp]
    rintro I2 oI2 D C oC h8 tk8 hh F8 N8 hli hC nCD nCI nDI offCD offI
    have oC' : Off C bs := fun p hp => (offCD p hp).1
    have oD' : Off D bs := fun p hp => (offCD p hp).2
    clear offCD F6 N6
    have nIC : I2 ≠ C := Ne.symm nCI
    have nID : I2 ≠ D := Ne.symm nDI
    have nDC : D ≠ C := Ne.symm nCD
    refine lc_loop_G (fun n news₁ => Ex8 fun (dn td : List (Addr × List Key)) (oC : Obj) (mc : Str → Option Value) (oI : Obj) (nrw : List Rw) (ne : Nat) (tl2 : List (Addr × Obj)) => rws = dn ++ td ∧ n = td.length ∧ news₁ = ((I2, oI) :: (C, oC) :: (D, listOf (nrw.map fun r => Value.ref r.1).toArray ne) :: (tl2 ++ bs)) ∧ isLi oI R dn.length ∧ NsObj oC mc ∧
      (∀ r ∈ nrw, (∃ n, (r.1, listOf (pvs r.2).toArray n) ∈ tl2) ∧ r.2.length = 3 ∧ ∀ q ∈ r.2, PairIn rest q) ∧ nrw.map (fun r => r.2.map (·.2)) = dn.map (fun r => srt r.2) ∧ (∀ p ∈ tl2, p.1 ≠ I2 ∧ p.1 ≠ C ∧ p.1 ≠ D))
      F8 (News.rot' N8) (Ex8.mk ([]) rws oC _ oI2 ([]) 0 ([]) ⟨rfl, rfl, rfl, hli, hC, (fun _ h => nomatch h), rfl, (fun _ h => nomatch h)⟩) ?_
    clear F8 N8 hC hli
    intro J2 R2 hJ2 hR2 n news₁ h9 tk9 F9 N9 hJJ
    refine hJJ _ fun dn td oC mc oI nrw ne tl2 hAA => ?_
    refine and_on8 hAA fun hrd hE1 hE2 hli hC hnrw hnl htl2 => ?_
    clear hAA hJJ
    refine goal_G fun GG hGG => ?_
    subst hE1
    subst hE2
    refine hGG ?_
    clear hGG GG
    have hl := N9.isList (.tail _ (.tail _ (.tail _ (List.mem_append_right _ mR))))
    have offI2 : Off I2 ((C, oC) :: (D, listOf (nrw.map fun r => Value.ref r.1).toArray ne) :: (tl2 ++ bs)) := Off.cons nCI (Off.cons nDI (fun p hp => by
      rcases List.mem_append.mp hp with hp | hp
      · exact (htl2 p hp).1
      · exact offI p hp))
    rcases td with _ | ⟨r, td⟩
    · refine next_list_end rfl F9 N9 offI2 hli hl (by rw [hrd]; simp) ?_
      intro h10 F10 N10
      refine hR2 _ _ (lcd (F10) (News.swap N10) (hC) (fun p hp => ?_) (nCD) ?_)
      · rcases List.mem_append.mp hp with hp | hp
        · exact ⟨(htl2 p hp).2.1, (htl2 p hp).2.2⟩
        · exact ⟨oC' p hp, oD' p hp⟩
      rw [List.append_nil] at hrd
      subst hrd
      clear F9 N9 F10 N10 hl
      intro h11 tk11 F11 N11 o11
      walk1
      have hnz : rws.map (·.2) ≠ [] := by rw [hlr]; exact hne
      rcases nrw with _ | ⟨r, td⟩
      · have e : rws.length = 0 := by
          have := congrArg List.length hnl
          rw [List.length_map, List.length_map] at this
          exact this.symm
        exact absurd (by rw [List.length_eq_zero_iff.mp e]; rfl) hnz
      have hk' : ∀ r' ∈ r :: td, ∀ q ∈ r'.2, PairIn rest q := fun r' hr' => (hnrw r' hr').2.2
      refine call_min_rows (r := r) (td := td) F11 N11 (.head _) (fun r' hr' => ?_) (fun r' hr' q hq => (hk' r' hr' q hq).sub (fun p hp => .tail _ (List.mem_append_right _ (mr p hp)))) (fun r' hr' => (hnrw r' hr').2.1) (Nat.le_of_ble_eq_true rfl) rfl ?_
      · first | refine Exists.elim ((hnrw r' hr').1) fun n hm => ?_ | refine and_on2 ((hnrw r' hr').1) fun n hm => ?_
        exact ⟨n, .tail _ (List.mem_append_left _ hm)⟩
      intro h12 tk12 F12 N12
      have hmem := minStep_mem td r
      first | refine Exists.elim ((hnrw _ hmem).1) fun nm hm => ?_ | refine and_on2 ((hnrw _ hmem).1) fun nm hm => ?_
      have hres : (td.foldl minStep r).2.map (·.2) = leastOf tbl := by
        rw [minStep_keys]
        unfold leastOf
        rw [← hlr, List.map_map, show (srt ∘ fun x : Addr × List Key => x.2) = (fun r => srt r.2) from rfl, ← hnl, List.map_cons]
      clear F11 N11
      walk
      rename News h₀ L _ _ => N13
      refine h _ _ _ (td.foldl minStep r).2 nm tl2 (by assumption) (News.sub N13 (fun p hp => ?_)) hm (hk' _ hmem) hres
      rcases List.mem_append.mp hp with hp | hp
      · exact .tail _ (List.mem_append_left _ hp)
      · exact .tail _ (List.mem_append_right _ (mr p hp))
    · have hrm : r ∈ rws := by rw [hrd]; simp
      first | refine Exists.elim (hrw r hrm) fun nr1 hr1 => ?_ | refine and_on2 (hrw r hrm) fun nr1 hr1 => ?_
      have hr3 : r.2 ∈ lrows tbl 3 := by rw [← hlr]; exact List.mem_map.mpr ⟨r, hrm, rfl⟩
      have hlm := lrows_mem tbl 3 r.2 hr3
      have hlp := lrows_pos tbl 3 r.2 hr3
      have hkk : ∀ k ∈ r.2, KeyIn rest adr k := fun k hk => by
        refine goal_G fun GG hGG => ?_
        obtain ⟨i, h1, j', h2, rfl⟩ := hlm.2 k hk
        refine hGG ?_
        clear hGG GG
        exact hT i h1 j' (by lia)
      refine next_list F9 N9 offI2 hli hl (by rw [hrd]; simp) ?_
      intro h10 oI10 hli10 F10 N10
      rw [show (rws.map fun r => Value.ref r.1).getD dn.length Value.none = .ref r.1 from by rw [hrd]; simp]
      dsimp only
      have offC : Off C ((I2, oI10) :: (D, listOf (nrw.map fun r => Value.ref r.1).toArray ne) :: (tl2 ++ bs)) := Off.cons nIC (Off.cons nDC (fun p hp => by
        rcases List.mem_append.mp hp with hp | hp
        · exact (htl2 p hp).2.1
        · exact oC' p hp))
      refine lc_store rfl rfl F10 (News.swap N10) hC offC ?_
      intro oC11 h11 hC11 F11 N11
      clear F9 N9 F10 N10 hl
      refine wpAny_tests_nil ?_
      refine ifT rfl ?_
      iterate 4 walk1
      refine LCgL.ld_own N11 (.head _) hC11 rfl ?_
      obtain ⟨k0, k1, k2, hr⟩ : ∃ k0 k1 k2, r.2 = [k0, k1, k2] := len3 hlm.1
      refine goal_G fun GG hGG => ?_
      obtain ⟨i0, hi0, e0⟩ := hlp 0 (by decide)
      refine hGG ?_
      clear hGG GG
      refine goal_G fun GG hGG => ?_
      obtain ⟨i1, hi1, e1'⟩ := hlp 1 (by decide)
      refine hGG ?_
      clear hGG GG
      refine goal_G fun GG hGG => ?_
      obtain ⟨i2, hi2, e2'⟩ := hlp 2 (by decide)
      refine hGG ?_
      clear hGG GG
      rw [hr] at hr1 hkk e0 e1' e2'
      have f0 : k0.2.2 = 0 := by rw [show k0 = tbl i0 0 from e0]; exact hJ i0 hi0 0 (by decide)
      have f1 : k1.2.2 = 1 := by rw [show k1 = tbl i1 1 from e1']; exact hJ i1 hi1 1 (by decide)
      have f2 : k2.2.2 = 2 := by rw [show k2 = tbl i2 2 from e2']; exact hJ i2 hi2 2 (by decide)
      have hup : ∀ p ∈ rest, p ∈ (C, oC11) :: (I2, oI10) :: (D, listOf (nrw.map fun r => Value.ref r.1).toArray ne) :: (tl2 ++ bs) := fun p hp => .tail _ (.tail _ (.tail _ (List.mem_append_right _ (mr p hp))))
      have m0 : KeyIn rest adr k0 := hkk k0 (.head _)
      have m1 : KeyIn rest adr k1 := hkk k1 (.tail _ (.head _))
      have m2 : KeyIn rest adr k2 := hkk k2 (.tail _ (.tail _ (.head _)))
      walk1
      refine sorted3 (a := (adr k0, k0)) (b := (adr k1, k1)) (c := (adr k2, k2)) F11 N11 (N11.isList (.tail _ (.tail _ (.tail _ (List.mem_append_right _ (mt _ hr1)))))) (m0.sub hup) (m1.sub hup) (m2.sub hup) (fun e => ?_) (fun e => ?_) (fun e => ?_) ?_
      · have e : k0 = k1 := e
        rw [e] at f0; lia
      · have e : k0 = k2 := e
        rw [e] at f0; lia
      · have e : k1 = k2 := e
        rw [e] at f1; lia
      intro D4 n4 h12 F12 N12 lt12
      clear N11 F11
      have hp3 : ∀ i ∈ perm3 (keyLt k0 k1) (keyLt k0 k2) (keyLt k1 k2), i = 0 ∨ i = 1 ∨ i = 2 := fun i hi => by
        have : i < 3 := of_decide_eq_true (List.all_eq_true.mp (perm3_lt _ _ _) i hi)
        lia
      generalize hps : (perm3 (keyLt (adr k0, k0).2 (adr k1, k1).2) (keyLt (adr k0, k0).2 (adr k2, k2).2) (keyLt (adr k1, k1).2 (adr k2, k2).2)).map (fun i => [(adr k0, k0), (adr k1, k1), (adr k2, k2)].getD i (0, (0, 0, 0))) = ps at N12
      have hp1 : ps.length = 3 := by rw [← hps, List.length_map]; exact perm3_len _ _ _
      have hp2 : ps.map (·.2) = srt [k0, k1, k2] := by
        rw [← hps, List.map_map]
        show _ = sort3 k0 k1 k2
        unfold sort3
        refine List.map_congr_left fun i hi => ?_
        rcases hp3 i hi with rfl | rfl | rfl <;> rfl
      have hp4 : ∀ q ∈ ps, PairIn rest q := fun q hq => by
        rw [← hps] at hq
        refine goal_G fun GG hGG => ?_
        obtain ⟨i, hi, rfl⟩ := List.mem_map.mp hq
        refine hGG ?_
        clear hGG GG
        rcases hp3 i hi with rfl | rfl | rfl
        · exact m0
        · exact m1
        · exact m2
      have o4 : ∀ p ∈ (C, oC11) :: (I2, oI10) :: (D, listOf (nrw.map fun r => Value.ref r.1).toArray ne) :: (tl2 ++ bs), D4 ≠ p.1 := fun p hp => Nat.ne_of_gt (lt12 p hp)
      have nC4 : D4 ≠ C := o4 (C, _) (.head _)
      have nI4 : D4 ≠ I2 := o4 (I2, _) (.tail _ (.head _))
      have nD4 : D4 ≠ D := o4 (D, _) (.tail _ (.tail _ (.head _)))
      have N13 := News.sub N12 (r := (D, listOf (nrw.map fun r => Value.ref r.1).toArray ne) :: (I2, oI10) :: (C, oC11) :: (((D4, listOf (pvs ps).toArray n4) :: tl2) ++ bs)) (fun p hp => by grind)
      refine lc_append F12 N13 (Off.cons nID (Off.cons nCD (Off.cons nD4 (fun p hp => ?_)))) ?_ ?_
      · rcases List.mem_append.mp hp with hp | hp
        · exact (htl2 p hp).2.2
        · exact oD' p hp
      · have q1 := lrows_len tbl 3
        have q3 : rws.length = (lrows tbl 3).length := by rw [← hlr, List.length_map]
        have q4 : nrw.length = dn.length := by
          have := congrArg List.length hnl
          rw [List.length_map, List.length_map] at this
          exact this
        have q7 : dn.length ≤ rws.length := by rw [hrd]; simp
        rw [List.length_map]
        lia
      intro h14 F14 N14
      clear F12 N12 N13
      have e14 : ((nrw.map fun r => Value.ref r.1) ++ [Value.ref D4]) = ((nrw ++ [(D4, ps)]).map fun r => Value.ref r.1) := by simp
      rw [e14] at N14
      refine lcs (n' := td.length) (F14) (News.sub N14 (r := (I2, oI10) :: (C, oC11) :: (D, listOf ((nrw ++ [(D4, ps)]).map fun r => Value.ref r.1).toArray (ne + 1)) :: (((D4, listOf (pvs ps).toArray n4) :: tl2) ++ bs)) (fun p hp => by grind)) (by simp) (hJ2 _ _ (Ex8.mk (dn ++ [r]) td oC11 _ oI10 (nrw ++ [(D4, ps)]) (ne + 1) _ ⟨by rw [hrd]; simp, rfl, rfl, by simpa using hli10, hC11, ?_, ?_, ?_⟩))
      · intro r' hr'
        rcases List.mem_append.mp hr' with hr' | hr'
        · refine goal_G fun GG hGG => ?_
          obtain ⟨⟨n, hm⟩, h1, h2⟩ := hnrw r' hr'
          refine hGG ?_
          clear hGG GG
          exact ⟨⟨n, .tail _ hm⟩, h1, h2⟩
        · rw [List.mem_singleton.mp hr']
          exact ⟨⟨n4, .head _⟩, hp1, hp4⟩
      · rw [List.map_append, List.map_append, hnl]
        show _ ++ [ps.map (·.2)] = _ ++ [srt r.2]
        rw [hp2, hr]
      · intro p hp
        rcases List.mem_cons.mp hp with rfl | hp
        · exact ⟨nI4, nC4, nD4⟩
        · exact htl2 p hp
  · refine next_range F5 N5 oI5 (by lia) ?_
    intro h6 F6 N6
    clear F5 N5
    rw [show (j : Int) + 1 = ((j + 1 : Nat) : Int) from rfl, show (3 : Int) - j - 1 = 3 - ((j + 1 : Nat) : Int) from rng_b 3 j] at N6
    dsimp only
    walk
    have oc1 : Off (L' + 1 + 1) ((L' + 1, o2) :: (tl ++ rest)) := Off.cons (Nat.ne_of_lt (Nat.lt_succ_self _)) (fun p hp => by
      rcases List.mem_append.mp hp with hp | hp
      · exact (htl p hp).2
      · exact ocr p hp)
    refine storeX_C F6 N6 rfl (UpdF.tail (Ne.symm nc1) (UpdF.tail hRn.2 (UpdF.head oc1))) e1 ?_
    intro h7 c1' F7 N7 e1'
    clear F6 N6 F5
    walk
    refine LC_assign (h₀ := g') (L := L') (m := kstB u5 [("rows", .ref R)]) rfl (by rfl) (by rfl) (by decide) rfl (by decide) rfl rfl ?_
    walk
    refine lc_src_list F7 N7 (N7.isList (.tail _ (.head _))) ?_
    generalize hbs : ((I, riObj ((j + 1 : Nat) : Int) (3 - ((j + 1 : Nat) : Int)) 1) :: (R, listOf (rws.map fun r => Value.ref r.1).toArray nr) :: (L' + 1 + 1, c1') :: (L' + 1, o2) :: (tl ++ rest) : List (Addr × Obj)) = bs at N7 ⊢
    rintro I2 oI2 D C oC h8 tk8 hh F8 N8 hli hC nCD nCI nDI offCD offI
    have oC' : Off C bs := fun p hp => (offCD p hp).1
    have oD' : Off D bs := fun p hp => (offCD p hp).2
    have mR : (R, listOf (rws.map fun r => Value.ref r.1).toArray nr) ∈ bs := by rw [← hbs]; simp
    have m1 : (L' + 1 + 1, c1') ∈ bs := by rw [← hbs]; simp
    have m2 : (L' + 1, o2) ∈ bs := by rw [← hbs]; simp
    have mI : ∃ o, (I, o) ∈ bs := ⟨_, by rw [← hbs]; exact .head _⟩
    have mt : ∀ p ∈ tl, p ∈ bs := fun p hp => by rw [← hbs]; simp [hp]
    have mr : ∀ p ∈ rest, p ∈ bs := fun p hp => by rw [← hbs]; simp [hp]
    clear offCD F7 N7
    have nIC : I2 ≠ C := Ne.symm nCI
    have nID : I2 ≠ D := Ne.symm nDI
    have nDC : D ≠ C := Ne.symm nCD
    refine lc_loop_out_G (fun n news₁ => Ex8 fun (dn td : List (Addr × List Key)) (oC : Obj) (mc : Str → Option Value) (oI : Obj) (nrw : List (Addr × List Key)) (ne : Nat) (tl2 : List (Addr × Obj)) => rws = dn ++ td ∧ n = td.length ∧ news₁ = ((I2, oI) :: (C, oC) :: (D, listOf (nrw.map fun r => Value.ref r.1).toArray ne) :: (tl2 ++ bs)) ∧ isLi oI R dn.length ∧ NsObj oC mc ∧
      (∀ r ∈ nrw, RowIn tl2 adr r) ∧ nrw.map (·.2) = dn.flatMap (fun r => ext tbl j r.2) ∧ (∀ p ∈ tl2, p.1 ≠ I2 ∧ p.1 ≠ C ∧ p.1 ≠ D ∧ ∀ q ∈ bs, p.1 ≠ q.1))
      F8 (News.rot' N8) (Ex8.mk ([]) rws oC _ oI2 ([]) 0 ([]) ⟨rfl, rfl, rfl, hli, hC, (fun _ h => nomatch h), rfl, (fun _ h => nomatch h)⟩) ?_
    clear F8 N8 hC hli oC oI2
    intro J3 R3 hJ3 hR3 n news₁ h9 tk9 F9 N9 hJJ
    refine hJJ _ fun dn td oC mc oI nrw ne tl2 hAA => ?_
    refine and_on8 hAA fun hrd hE1 hE2 hli hC hnrw hnl htl2 => ?_
    clear hAA hJJ
    refine goal_G fun GG hGG => ?_
    subst hE1
    subst hE2
    refine hGG ?_
    clear hGG GG
    have hl := N9.isList (.tail _ (.tail _ (.tail _ (List.mem_append_right _ mR))))
    have offI2 : Off I2 ((C, oC) :: (D, listOf (nrw.map fun r => Value.ref r.1).toArray ne) :: (tl2 ++ bs)) := Off.cons nCI (Off.cons nDI (fun p hp => by
      rcases List.mem_append.mp hp with hp | hp
      · exact (htl2 p hp).1
      · exact offI p hp))
    rcases td with _ | ⟨r, td⟩
    · refine next_list_end rfl F9 N9 offI2 hli hl (by rw [hrd]; simp) ?_
      intro h10 F10 N10
      refine hR3 _ _ (lcd (F10) (News.swap N10) (hC) (fun p hp => ?_) (nCD) ?_)
      · rcases List.mem_append.mp hp with hp | hp
        · exact ⟨(htl2 p hp).2.1, (htl2 p hp).2.2.1⟩
        · exact ⟨oC' p hp, oD' p hp⟩
      rw [List.append_nil] at hrd
      subst hrd
      clear F9 N9 F10 N10 hl
      intro h11 tk11 F11 N11 o11
      walk
      subst hbs
      first | refine ws_next (n' := n) (F11) (News.sub N11 (r := (I, riObj ((j + 1 : Nat) : Int) (3 - ((j + 1 : Nat) : Int)) 1) :: (D, listOf (nrw.map fun r => Value.ref r.1).toArray ne) :: (L' + 1 + 1, c1') :: (L' + 1, o2) :: (tl2 ++ rest)) (fun p hp => by grind)) (by lia) (hJ1 _ _ _ (Ex7.mk (j + 1) D nrw tl2 ne c1' _ ⟨by lia, rfl, e1', ⟨rfl, trivial⟩, hnrw, ?_, ⟨?_, ?_⟩, ?_⟩)) | refine ws_cont (n' := n) (F11) (News.sub N11 (r := (I, riObj ((j + 1 : Nat) : Int) (3 - ((j + 1 : Nat) : Int)) 1) :: (D, listOf (nrw.map fun r => Value.ref r.1).toArray ne) :: (L' + 1 + 1, c1') :: (L' + 1, o2) :: (tl2 ++ rest)) (fun p hp => by grind)) (by lia) (hJ1 _ _ _ (Ex7.mk (j + 1) D nrw tl2 ne c1' _ ⟨by lia, rfl, e1', ⟨rfl, trivial⟩, hnrw, ?_, ⟨?_, ?_⟩, ?_⟩))
      · rw [hnl, lrows, ← hlr, List.flatMap_map]
      · exact fun q => o11 _ (List.mem_append_right _ (.head _)) q.symm
      · exact fun q => o11 _ (List.mem_append_right _ (.tail _ (.tail _ (.head _)))) q.symm
      · exact fun p hp => ⟨(htl2 p hp).2.2.2 _ (.head _), (htl2 p hp).2.2.2 _ (.tail _ (.tail _ (.head _)))⟩
    · have hrm : r ∈ rws := by rw [hrd]; simp
      first | refine Exists.elim (hrw r hrm) fun nr1 hr1 => ?_ | refine and_on2 (hrw r hrm) fun nr1 hr1 => ?_
      have hlm := lrows_mem tbl j r.2 (by rw [← hlr]; exact List.mem_map.mpr ⟨r, hrm, rfl⟩)
      have hkk : ∀ k ∈ r.2, KeyIn rest adr k := fun k hk => by
        refine goal_G fun GG hGG => ?_
        obtain ⟨i, h1, j', h2, rfl⟩ := hlm.2 k hk
        refine hGG ?_
        clear hGG GG
        exact hT i h1 j' (by lia)
      refine next_list F9 N9 offI2 hli hl (by rw [hrd]; simp) ?_
      intro h10 oI10 hli10 F10 N10
      rw [show (rws.map fun r => Value.ref r.1).getD dn.length Value.none = .ref r.1 from by rw [hrd]; simp]
      dsimp only
      have offC : Off C ((I2, oI10) :: (D, listOf (nrw.map fun r => Value.ref r.1).toArray ne) :: (tl2 ++ bs)) := Off.cons nIC (Off.cons nDC (fun p hp => by
        rcases List.mem_append.mp hp with hp | hp
        · exact (htl2 p hp).2.1
        · exact oC' p hp))
      refine lc_store rfl rfl F10 (News.swap N10) hC offC ?_
      intro oC11 h11 hC11 F11 N11
      clear F9 N9 F10 N10 hl
      refine wpAny_tests_nil ?_
      refine ifT rfl ?_
      walk
      rename IsRange _ _ _ _ _ _ _ _ => hR
      rename Fr g' L' _ _ => F12
      rename News g' L' _ _ => N12
      refine wpAny_pyIter_range hR (by decide +kernel) ?_
      rw [show Builtin.Range.rangeSize 0 4 1 = 4 from by decide]
      refine and_on3 (led_new (o := riObj 0 4 1) F12 N12 rfl) fun F13 N13 ne13 => ?_
      dsimp only
      generalize hI3 : Array.size _ = I3 at N13 ne13 ⊢
      refine compStart_in' (fun Q' E' hq => wpAny_pyIter_rangeiter (N13 _ (.head _)).1 hq) ?_
      have nC3 : C ≠ I3 := ne13 (C, oC11) (.head _)
      have n23 : I2 ≠ I3 := ne13 (I2, oI10) (.tail _ (.head _))
      have nD3 : D ≠ I3 := ne13 (D, _) (.tail _ (.tail _ (.head _)))
      have off3 : Off I3 (tl2 ++ bs) := fun p hp => ne13 p (.tail _ (.tail _ (.tail _ hp)))
      clear F12 hR
      refine lc_loop_in_G (fun n news₁ => Ex6 fun (i : Nat) (oC : Obj) (mc : Str → Option Value) (nrw2 : List (Addr × List Key)) (ne2 : Nat) (tl3 : List (Addr × Obj)) => i + n = 4 ∧ news₁ = ((I3, riObj i (4 - i) 1) :: (C, oC) :: (D, listOf ((nrw ++ nrw2).map fun r => Value.ref r.1).toArray ne2) :: (I2, oI10) :: (tl3 ++ bs)) ∧ NsObj oC mc ∧ mc "row" = some (.ref r.1) ∧
        (∀ r ∈ nrw2, RowIn tl3 adr r) ∧ (∀ p ∈ tl2, p ∈ tl3) ∧ nrw2.map (·.2) = ((List.range i).filter fun i => free r.2 i).map (fun i => r.2 ++ [tbl i j]) ∧ (∀ p ∈ tl3, p.1 ≠ I2 ∧ p.1 ≠ C ∧ p.1 ≠ D ∧ p.1 ≠ I3 ∧ ∀ q ∈ bs, p.1 ≠ q.1)) (n₀ := 4)
        F13 (News.sub N13 (r := (I3, riObj 0 4 1) :: (C, oC11) :: (D, listOf (nrw.map fun r => Value.ref r.1).toArray ne) :: (I2, oI10) :: (tl2 ++ bs)) (fun p hp => by grind))
        (Ex6.mk 0 oC11 _ ([]) ne tl2 ⟨rfl, by rw [List.append_nil]; rfl, hC11, rfl, (fun _ h => nomatch h), (fun _ h => h), rfl, (fun p hp => ⟨(htl2 p hp).1, (htl2 p hp).2.1, (htl2 p hp).2.2.1, off3 p (List.mem_append_left _ hp), (htl2 p hp).2.2.2⟩)⟩) ?_
      clear F13 N13 ne13 N12 hC11 hC
      intro J4 R4 hJ4 hR4 n news₁ h14 tk14 F14 N14 hJJ
      refine hJJ _ fun i oC mc nrw2 ne2 tl3 hAA => ?_
      refine and_on8 hAA fun hin hE1 hC hrow hnrw2 h23' hnl2 htl3 => ?_
      clear hAA hJJ
      refine goal_G fun GG hGG => ?_
      subst hE1
      refine hGG ?_
      clear hGG GG
      have off14 : Off I3 ((C, oC) :: (D, listOf ((nrw ++ nrw2).map fun r => Value.ref r.1).toArray ne2) :: (I2, oI10) :: (tl3 ++ bs)) := Off.cons nC3 (Off.cons nD3 (Off.cons n23 (fun p hp => by
        rcases List.mem_append.mp hp with hp | hp
        · exact (htl3 p hp).2.2.2.1
        · exact off3 p (List.mem_append_right _ hp))))
      rcases n with _ | n
      · have hi4 : i = 4 := by lia
        subst hi4
        refine next_range_end rfl F14 N14 off14 (by decide) ?_
        intro h15 F15 N15
        refine hR4 _ _ (lcs (n' := td.length) (F15) (News.rot' N15) (by simp) (hJ3 _ _ (Ex8.mk (dn ++ [r]) td oC mc oI10 (nrw ++ nrw2) ne2 tl3 ⟨by rw [hrd]; simp, rfl, rfl, by simpa using hli10, hC, ?_, ?_, ?_⟩)))
        · intro r' hr'
          rcases List.mem_append.mp hr' with hr' | hr'
          · first | refine Exists.elim (hnrw r' hr') fun n hm => ?_ | refine and_on2 (hnrw r' hr') fun n hm => ?_
            exact ⟨n, h23' _ hm⟩
          · exact hnrw2 r' hr'
        · rw [List.map_append, hnl, hnl2, List.flatMap_append, List.flatMap_cons, List.flatMap_nil, List.append_nil]
          rfl
        · exact fun p hp => ⟨(htl3 p hp).1, (htl3 p hp).2.1, (htl3 p hp).2.2.1, (htl3 p hp).2.2.2.2⟩
      · refine next_range F14 N14 off14 (by lia) ?_
        intro h15 F15 N15
        clear F14 N14
        rw [show (i : Int) + 1 = ((i + 1 : Nat) : Int) from rfl, show (4 : Int) - i - 1 = 4 - ((i + 1 : Nat) : Int) from rng_b 4 i] at N15
        dsimp only
        have offC2 : Off C ((I3, riObj ((i + 1 : Nat) : Int) (4 - ((i + 1 : Nat) : Int)) 1) :: (D, listOf ((nrw ++ nrw2).map fun r => Value.ref r.1).toArray ne2) :: (I2, oI10) :: (tl3 ++ bs)) := Off.cons (Ne.symm nC3) (Off.cons nDC (Off.cons nIC (fun p hp => by
          rcases List.mem_append.mp hp with hp | hp
          · exact (htl3 p hp).2.1
          · exact oC' p hp)))
        refine lc_store rfl rfl F15 (News.swap N15) hC offC2 ?_
        intro oC16 h16 hC16 F16 N16
        clear F15 N15
        refine wpAny_tests_one ?_
        walk1
        refine LCgL.ld_own N16 (.head _) hC16 rfl ?_
        refine LC_eval (h₀ := g') (L := L') (m := kstB u5 [("rows", .ref R)]) (by rfl) (by decide) rfl (by decide) ?_
        refine LCgL.ld_own N16 (.head _) hC16 hrow ?_
        generalize hbs2 : ((C, oC16) :: (I3, riObj ((i + 1 : Nat) : Int) (4 - ((i + 1 : Nat) : Int)) 1) :: (D, listOf ((nrw ++ nrw2).map fun r => Value.ref r.1).toArray ne2) :: (I2, oI10) :: (tl3 ++ bs) : List (Addr × Obj)) = bs2 at N16 ⊢
        have mb2 : ∀ p ∈ bs, p ∈ bs2 := fun p hp => by rw [← hbs2]; simp [hp]
        have mC2 : (C, oC16) ∈ bs2 := by rw [← hbs2]; exact .head _
        refine lc_src_list F16 N16 (N16.isList (mb2 _ (mt _ hr1))) ?_
        rintro I4 oI4 D4 C4 oC4 h17 tk17 hh F17 N17 hli17 hC17 nCD4 nCI4 nDI4 offCD4 offI4
        clear F16 N16
        refine lc_loop_G (fun n news₁ => Ex7 fun (dk td : List Key) (oC : Obj) (mc : Str → Option Value) (oI : Obj) (us : List Value) (ne : Nat) => r.2 = dk ++ td ∧ n = td.length ∧ news₁ = ((I4, oI) :: (C4, oC) :: (D4, listOf us.toArray ne) :: bs2) ∧ isLi oI r.1 dk.length ∧ NsObj oC mc ∧ IntsAre us (dk.map (·.2.1)))
          F17 (News.rot' N17) (Ex7.mk ([]) (r.2) oC4 _ oI4 ([]) 0 ⟨rfl, rfl, rfl, hli17, hC17, .nil⟩) ?_
        clear F17 N17 hC17 hli17
        intro J5 R5 hJ5 hR5 n' news₁ h18 tk18 F18 N18 hJJ
        refine hJJ _ fun dk td4 oC4 mc4 oI4 us ne4' hAA => ?_
        refine and_on6 hAA fun hrk hE1 hE2 hli4 hC4 hus => ?_
        clear hAA hJJ
        refine goal_G fun GG hGG => ?_
        subst hE1
        subst hE2
        refine hGG ?_
        clear hGG GG
        have hl4 := N18.isList (.tail _ (.tail _ (.tail _ (mb2 _ (mt _ hr1)))))
        have oI4' : Off I4 ((C4, oC4) :: (D4, listOf us.toArray ne4') :: bs2) := Off.cons nCI4 (Off.cons nDI4 offI4)
        rcases td4 with _ | ⟨k, td4⟩
        · refine next_list_end rfl F18 N18 oI4' hli4 hl4 (by rw [hrk]; simp) ?_
          intro h19 F19 N19
          refine hR5 _ _ (lcd (F19) (News.swap N19) (hC4) (fun p hp => offCD4 p hp) (nCD4) ?_)
          clear F18 N18 F19 N19 hl4
          intro h20 tk20 F20 N20 o20
          rw [List.append_nil] at hrk
          refine SeqAt.notIn_listAt (fun y => match y with | .int a _ => a == (i : Int) | _ => false) (N20.isList (.head _)) (fun y hy => ?_) ?_
          · refine goal_G fun GG hGG => ?_
            obtain ⟨a, t, rfl⟩ := hus.all y (by simpa using hy)
            refine hGG ?_
            clear hGG GG
            exact SeqAt.EqAt.int_int a t i tk14
          have hfree : (!us.toArray.any fun y => match y with | .int a _ => a == (i : Int) | _ => false) = free r.2 i := by
            rw [List.any_toArray, any_are (i : Int) hus, List.any_map, ← hrk]
            rfl
          rw [hfree]
          refine wpAny_truthy_bool ?_
          subst hbs2
          have N21 := News.sub N20 (r := (I3, riObj ((i + 1 : Nat) : Int) (4 - ((i + 1 : Nat) : Int)) 1) :: (C, oC16) :: (D, listOf ((nrw ++ nrw2).map fun r => Value.ref r.1).toArray ne2) :: (I2, oI10) :: (tl3 ++ bs)) (fun p hp => by grind)
          have hflt : (List.range (i + 1)).filter (fun i => free r.2 i) = (List.range i).filter (fun i => free r.2 i) ++ (if free r.2 i = true then [i] else []) := by
            rw [List.range_succ, List.filter_append, List.filter_cons, List.filter_nil]
          cases hfr : free r.2 i with
          | false =>
            rw [hfr] at hflt
            simp only [Bool.false_eq_true, if_false]
            refine lcs (n' := n) (F20) (N21) (by lia) (hJ4 _ _ (Ex6.mk (i + 1) oC16 _ nrw2 ne2 tl3 ⟨by lia, rfl, hC16, hrow, hnrw2, h23', ?_, htl3⟩))
            rw [hflt, hnl2]; simp
          | true =>
            rw [hfr] at hflt
            simp only [if_true]
            walk1
            refine LCgL.ld_own N21 (.tail _ (.head _)) hC16 hrow ?_
            iterate 4 walk1
            have mb1 : ∀ p ∈ bs, p ∈ (I3, riObj ((i + 1 : Nat) : Int) (4 - ((i + 1 : Nat) : Int)) 1) :: (C, oC16) :: (D, listOf ((nrw ++ nrw2).map fun r => Value.ref r.1).toArray ne2) :: (I2, oI10) :: (tl3 ++ bs) := fun p hp => .tail _ (.tail _ (.tail _ (.tail _ (List.mem_append_right _ hp))))
            refine ld_cellC N21 rfl (mb1 _ m2) e2 ?_
            refine LCgL.ld_own N21 (.tail _ (.head _)) hC16 rfl ?_
            refine item_gen (N21.isList (mb1 _ (mr _ hka))) (by lia) (by simp; lia) (by simp; lia) ?_
            have hri : rows.getD i (0, []) ∈ rows := by simp [List.getD, show i < rows.length by lia]
            first | refine Exists.elim (hrows _ hri) fun nri hmi => ?_ | refine and_on2 (hrows _ hri) fun nri hmi => ?_
            have hli3 := h3 _ hri
            rw [show (i : Int).toNat = i from rfl, getD_refs rows i (rows.getD i (0, [])) (by simp [List.getD, show i < rows.length by lia])]
            refine ld_cellC N21 rfl (mb1 _ m1) e1' ?_
            have hkl : (kvs adr (rows.getD i (0, [])).2).length = 3 := by rw [List.length_map]; exact hli3
            refine item_gen (N21.isList (mb1 _ (mr _ hmi))) (by lia) (by rw [hkl]; lia) (by rw [hkl]; lia) ?_
            rw [show (j : Int).toNat = j from rfl, getD_kvs adr _ _ (by lia), show (rows.getD i (0, [])).2.getD j (0, 0, 0) = tbl i j from by rw [← htb]]
            clear N20
            walk1
            walk1
            rename_i D5 h22 F22 N22 lt22
            refine kmk_add_lit F22 N22 (a := r.1) (its := (kvs adr r.2).toArray) (N22.isList (.tail _ (mb1 _ (mt _ hr1)))) (N22.isList (.head _)) rfl ?_ ?_
            · intro D6 h23 F23 N23 lt23
              have N24 := News.sub N23 (r := (D, listOf ((nrw ++ nrw2).map fun r => Value.ref r.1).toArray ne2) :: (I3, riObj ((i + 1 : Nat) : Int) (4 - ((i + 1 : Nat) : Int)) 1) :: (C, oC16) :: (I2, oI10) :: (((D6, listOf ((kvs adr r.2).toArray.toList ++ #[Value.ref (adr (tbl i j))].toList).toArray 0) :: tl3) ++ bs)) (fun p hp => by grind)
              have o6 : ∀ p ∈ (I3, riObj ((i + 1 : Nat) : Int) (4 - ((i + 1 : Nat) : Int)) 1) :: (C, oC16) :: (D, listOf ((nrw ++ nrw2).map fun r => Value.ref r.1).toArray ne2) :: (I2, oI10) :: (tl3 ++ bs), D6 ≠ p.1 := fun p hp => Nat.ne_of_gt (lt23 p (.tail _ hp))
              have nD6 : D6 ≠ D := o6 (D, _) (.tail _ (.tail _ (.head _)))
              have nC6 : D6 ≠ C := o6 (C, _) (.tail _ (.head _))
              have nI36 : D6 ≠ I3 := o6 (I3, _) (.head _)
              have nI26 : D6 ≠ I2 := o6 (I2, _) (.tail _ (.tail _ (.tail _ (.head _))))
              have nb6 : ∀ q ∈ bs, D6 ≠ q.1 := fun q hq => o6 q (mb1 q hq)
              refine lc_append F23 N24 (Off.cons (Ne.symm nD3) (Off.cons nCD (Off.cons nID (Off.cons nD6 (fun p hp => ?_))))) ?_ ?_
              · rcases List.mem_append.mp hp with hp | hp
                · exact (htl3 p hp).2.2.1
                · exact oD' p hp
              · have q1 := lrows_len tbl j
                have q2 : 4 ^ j ≤ 4 ^ 3 := Nat.pow_le_pow_right (by decide) (by lia)
                have q3 : rws.length = (lrows tbl j).length := by rw [← hlr, List.length_map]
                have q4 : nrw.length ≤ 4 * dn.length := by
                  have := flat_len (fun r : Addr × List Key => ext tbl j r.2) (fun r => ext_len tbl j r.2) dn
                  rw [← hnl, List.length_map] at this
                  exact this
                have q5 : nrw2.length ≤ i := by
                  have := congrArg List.length hnl2
                  rw [List.length_map, List.length_map] at this
                  have q6 := List.length_filter_le (fun i => free r.2 i) (List.range i)
                  rw [List.length_range] at q6
                  lia
                have q7 : dn.length ≤ rws.length := by rw [hrd]; simp
                rw [List.length_map, List.length_append]
                lia
              intro h25 F25 N25
              clear F22 N22 F23 N23 N24
              have e25 : (((nrw ++ nrw2).map fun r => Value.ref r.1) ++ [Value.ref D6]) = ((nrw ++ (nrw2 ++ [(D6, r.2 ++ [tbl i j])])).map fun r => Value.ref r.1) := by simp
              rw [e25] at N25
              refine lcs (n' := n) (F25) (News.sub N25 (r := (I3, riObj ((i + 1 : Nat) : Int) (4 - ((i + 1 : Nat) : Int)) 1) :: (C, oC16) :: (D, listOf ((nrw ++ (nrw2 ++ [(D6, r.2 ++ [tbl i j])])).map fun r => Value.ref r.1).toArray (ne2 + 1)) :: (I2, oI10) :: (((D6, listOf ((kvs adr r.2).toArray.toList ++ #[Value.ref (adr (tbl i j))].toList).toArray 0) :: tl3) ++ bs)) (fun p hp => by grind)) (by lia) (hJ4 _ _ (Ex6.mk (i + 1) oC16 _ (nrw2 ++ [(D6, r.2 ++ [tbl i j])]) (ne2 + 1) _ ⟨by lia, rfl, hC16, hrow, ?_, ?_, ?_, ?_⟩))
              · intro r' hr'
                rcases List.mem_append.mp hr' with hr' | hr'
                · first | refine Exists.elim (hnrw2 r' hr') fun n hm => ?_ | refine and_on2 (hnrw2 r' hr') fun n hm => ?_
                  exact ⟨n, .tail _ hm⟩
                · rw [List.mem_singleton.mp hr']
                  exact ⟨0, by rw [show kvs adr (D6, r.2 ++ [tbl i j]).2 = (kvs adr r.2).toArray.toList ++ #[Value.ref (adr (tbl i j))].toList from by simp [kvs]]; exact .head _⟩
              · exact fun p hp => .tail _ (h23' p hp)
              · rw [hflt, List.map_append, List.map_append, hnl2]
                rfl
              · intro p hp
                rcases List.mem_cons.mp hp with rfl | hp
                · exact ⟨nI26, nC6, nD6, nI36, nb6⟩
                · exact htl3 p hp
            · have e2 := hlm.1
              simp only [sizeLine_eq, List.length_map, List.size_toArray, Array.length_toList, List.length_cons, List.length_nil]
              simp
              lia
        · refine next_list F18 N18 oI4' hli4 hl4 (by rw [hrk]; simp) ?_
          intro h19 oI19 hli19 F19 N19
          rw [getD_kvs adr r.2 dk.length (by rw [hrk]; simp), show r.2.getD dk.length (0, 0, 0) = k from by rw [hrk]; simp]
          dsimp only
          refine lc_store rfl rfl F19 (News.swap N19) hC4 (Off.cons (Ne.symm nCI4) (Off.cons (Ne.symm nCD4) (fun p hp => (offCD4 p hp).1))) ?_
          intro oC20 h20 hC20 F20 N20
          refine wpAny_tests_nil ?_
          refine ifT rfl ?_
          walk1
          refine LCgL.ld_own N20 (.head _) hC20 rfl ?_
          walk1
          refine goal_G fun GG hGG => ?_
          obtain ⟨oq, hmq, dq, nq, slq, u1, u2, u3, rfl⟩ := hkk k (by rw [hrk]; simp)
          refine hGG ?_
          clear hGG GG
          have hTq : IsTup h20 (adr k) [.int k.1 u1, .int k.2.1 u2, .int k.2.2 u3].toArray := ⟨_, (N20 _ (.tail _ (.tail _ (.tail _ (mb2 _ (mr _ hmq)))))).1, rfl, _, rfl⟩
          refine item_tupleT hTq (by decide) (by decide) rfl rfl ?_
          refine lc_append F20 (News.rot' N20) (Off.cons nCD4 (Off.cons (Ne.symm nDI4) (fun p hp => (offCD4 p hp).2))) ?_ ?_
          · have e1 := hus.length
            have e2 := hlm.1
            rw [hrk] at e2
            simp at e1 e2
            lia
          intro h21 F21 N21
          refine lcs (n' := td4.length) (F21) (News.swap (News.rot N21)) (by simp) (hJ5 _ _ (Ex7.mk (dk ++ [k]) td4 oC20 _ oI19 (us ++ [.int k.2.1 u2]) (ne4' + 1) ⟨by rw [hrk]; simp, rfl, rfl, by simpa using hli19, hC20, ?_⟩))
          rw [List.map_append]
          exact hus.append (.cons _ _ .nil)
end
section
open PyProof.Rows.LCg (NsObj ns_obj)
open PySem Builtin Builtin.ObjectAttr
theorem fn_slot_sa : Slot "function" "__setattr__" "object.__setattr__" := .of (owner := "object") (n := "__setattr__") (by rw [typeLookup_type, builtinLookup_eq_fast]; kernel_rfl) (by decide +kernel) (by decide +kernel) (by decide +kernel)
  (by first | exact .inl (by decide +kernel) | exact .inr (by decide +kernel)) (by rw [isSubtype_type]; kernel_rfl)
theorem fn_entry_sa : entryFor table "object.__setattr__" = some Builtin.«object.__setattr__» := entryFor_of_tree (by kernel_rfl)
theorem fn_args_sa (a b c : Value) : argsOk "object.__setattr__" ⟨[a, b, c], []⟩ := by unfold argsOk; kernel_rfl
theorem fn_lk_read : typeLookup (.type "function") "read" = pure none := by rw [typeLookup_type, builtinLookup_eq_fast]; kernel_rfl
theorem fn_lk_hook : typeLookup (.type "function") "__getattr__" = pure none := by rw [typeLookup_type, builtinLookup_eq_fast]; kernel_rfl
theorem fn_mro : mroOf (.type "function") = pure [.type "function", .type "object"] := by kernel_rfl
theorem fn_slot_ga : Slot "function" "__getattribute__" "object.__getattribute__" := .of (owner := "object") (n := "__getattribute__") (by rw [typeLookup_type, builtinLookup_eq_fast]; kernel_rfl) (by decide +kernel) (by decide +kernel) (by decide +kernel)
  (by first | exact .inl (by decide +kernel) | exact .inr (by decide +kernel)) (by rw [isSubtype_type]; kernel_rfl)
theorem fn_entry_ga : entryFor table "object.__getattribute__" = some Builtin.«object.__getattribute__» := entryFor_of_tree (by kernel_rfl)
theorem fn_args_ga (a b : Value) : argsOk "object.__getattribute__" ⟨[a, b], []⟩ := by unfold argsOk; kernel_rfl
theorem fn_pass (self : Value) : refuseLoop self "__setattr__" [.type "function", .type "object"] = pure () := by kernel_rfl
theorem fn_hasDict : typeHasDict (.type "function") = true := by decide +kernel
theorem fn_fin : finalisedInACycleAlone "function" = false := by decide +kernel

section
variable {prog : Program} {w : World} {A : Around} {E : Value → Shared → Prop} {s : Shared} {h₀ : Heap} {L : Addr} {m : Str → Option Value} {rest : List (Addr × Obj)}
theorem fn_setattr_raw {h : Heap} {g : Array GenState} {d : Drawn} {t : Nat} {os : OsState} {x : Addr} {o : Obj} {fd : FuncData} {v : Value} {Q : Unit → Shared → Prop}
    (hx : h.get? x = some o) (hc : o.cls = .type "function") (hdn : o.dict = none) (hdat : o.data = .func fd)
    (hq : ∀ h' tk', h'.get? x = some { o with dict := some h.objs.size } → h'.Ns h.objs.size (fun y => if y = ("read" : Str) then some v else none) → (∀ b ob, b ≠ x → h.get? b = some ob → h'.get? b = some ob) → Q () ⟨h', g, d, tk', os⟩) :
    wpAny (model prog w) A (setAttr (.ref x) "read" v) Q E ⟨h, g, d, t, os⟩ := by
  have hT : (⟨h, g, d, t, os⟩ : Shared).TypeIs (.ref x) "function" := ⟨o, hx, hc⟩
  have hpass := fn_pass (.ref x)
  unfold setAttr
  refine wpAny_bind (wpAny_mkText ?_)
  have hT' : (⟨h, g, d, t + 1, os⟩ : Shared).TypeIs (.ref x) "function" := ⟨o, hx, hc⟩
  refine wpAny_bind (wpAny_callSpecial?_slot hT' fn_slot_sa (wpAny_call (codeAny_call_builtin fn_slot_sa.plain fn_entry_sa (fn_slot_sa.check _ _ _ _ _ _ _ _ hT' (fn_args_sa _ _ _) ?_))))
  unfold Builtin.«object.__setattr__»
  repeat (first | rw [refuse_eq] | (rw [hpass]) | (with_reducible refine wpAny_loadPart_at hx ?_; rw [hc]) | (rw [fn_mro]) | (rw [fn_lk_read]) | wp_step)
  rw [hdn, if_neg (by rw [fn_hasDict]; simp), hdat]
  have hx₁ : (h.push { cls := .type "dict", data := .dict #[] }).get? x = some o := Heap.get?_push_of_some _ hx
  have hxs : x ≠ h.objs.size := Nat.ne_of_lt (Heap.lt_size hx)
  dsimp only
  refine wpAny_bind (wpAny_alloc' ?_)
  refine wpAny_bind (wpAny_update' hx₁ ?_)
  unfold dictMade
  dsimp only
  rw [fn_fin]
  simp only [Bool.false_eq_true, if_false]
  refine wpAny_pure ?_
  have hgd : ((h.push { cls := .type "dict", data := .dict #[] }).update x fun o => { cls := o.cls, dict := some h.objs.size, data := o.data, slots := o.slots }).get? h.objs.size
      = some { cls := .type "dict", data := .dict #[] } :=
    (Heap.get?_update_ne _ _ _ _ hxs.symm).trans (Heap.get?_push_at rfl rfl)
  have hnd : ((h.push { cls := .type "dict", data := .dict #[] }).update x fun o => { cls := o.cls, dict := some h.objs.size, data := o.data, slots := o.slots }).Ns h.objs.size (fun _ => none) :=
    ⟨_, #[], _, hgd, rfl, fun e he => absurd he (by simp), fun _ => rfl⟩
  show wpAny _ _ (storeInDict h.objs.size (.str "read" t) "read" v) _ _ _
  unfold storeInDict newKeyGuard
  refine wpAny_bind (wpAny_pure (wpAny_bind (wpAny_nsSet1 (Heap.Ns1.of_empty hnd) fun h' hn' hs => ?_)))
  obtain ⟨oD, esD, epD, hoD, hdD, hcD⟩ := hn'.count (Within.cons "read" v Within.nil)
  refine wpAny_bind (wpAny_lookBehind hoD (by rw [hdD]; exact pastItsLine_dict (Nat.le_trans hcD (by rw [List.length_cons, List.length_nil, sizeLine_eq]; lia))) ?_)
  wp_walk
  have hx' : h'.get? x = some { o with dict := some h.objs.size } := by
    refine (hs.2 x hxs).trans (Heap.get?_update_self _ hx₁ ?_)
    have hfr := (Heap.get?_some_iff.mp hx).2
    obtain ⟨oc, od, odt, osl⟩ := o
    cases odt <;> first | rfl | exact hfr
  refine hq h' _ hx' hn'.ns (fun b ob hbx hb => ?_)
  exact (hs.2 b (Nat.ne_of_lt (Heap.lt_size hb))).trans ((Heap.get?_update_ne _ _ _ _ hbx).trans (Heap.get?_push_of_some _ hb))

theorem fn_setattr {x : Addr} {o : Obj} {fd : FuncData} {v : Value} {Q : Unit → Shared → Prop} (F : Fr h₀ L s.heap m) (N : News h₀ L s.heap ((x, o) :: rest)) (hne : ∀ p ∈ rest, p.1 ≠ x)
    (hc : o.cls = .type "function") (hdn : o.dict = none) (hdat : o.data = .func fd)
    (h : ∀ d oD h' tk', Fr h₀ L h' m → News h₀ L h' ((d, oD) :: (x, { o with dict := some d }) :: rest) → NsObj oD (fun y => if y = ("read" : Str) then some v else none) → (∀ p ∈ (x, o) :: rest, p.1 < d) → Q () { s with heap := h', toks := tk' }) :
    wpAny (model prog w) A (setAttr (.ref x) "read" v) Q E s := by
  have z := N _ (.head _)
  refine fn_setattr_raw (g := s.gens) (d := s.drawn) (t := s.toks) (os := s.os) z.1 hc hdn hdat fun h' tk' hx hn hk => ?_
  obtain ⟨oD, hgD, hoD⟩ := ns_obj hn
  have hLs : L < s.heap.objs.size := F.ns.lt
  have old : ∀ b ob, h₀.get? b = some ob → h'.get? b = some ob := fun b ob e => hk b ob (fun q => by rw [q, z.2.2] at e; cases e) (F.keep b ob e)
  refine h _ oD h' tk' ⟨?_, old, F.above⟩ (fun p hp => ?_) hoD (fun p hp => Heap.lt_size (N p hp).1)
  · obtain ⟨oL, es, ep, hL, r⟩ := F.ns
    exact ⟨oL, es, ep, hk _ _ z.2.1.symm hL, r⟩
  · rcases List.mem_cons.mp hp with rfl | hp
    · exact ⟨hgD, Nat.ne_of_gt hLs, Heap.get?_none_of_le (Nat.le_trans F.above (Nat.le_of_lt hLs))⟩
    · rcases List.mem_cons.mp hp with rfl | hp
      · exact ⟨hx, z.2⟩
      · have y := N p (.tail _ hp)
        exact ⟨hk _ _ (hne p hp) y.1, y.2⟩
end
end
section
open PyProof.Rows.LCg (NsObj ns_obj)
open PySem Builtin Builtin.ObjectAttr
section
variable {prog : Program} {w : World} {A : Around} {E : Value → Shared → Prop} {s : Shared} {h₀ : Heap} {L : Addr} {m : Str → Option Value} {rest : List (Addr × Obj)}
theorem fn_get_entry {h : Heap} {g : Array GenState} {d : Drawn} {t tk : Nat} {os : OsState} {x dx : Addr} {o : Obj} {fd : FuncData} {v : Value} {mD : Str → Option Value} {Q : Fin → Shared → Prop}
    (hx : h.get? x = some o) (hc : o.cls = .type "function") (hdx : o.dict = some dx) (hdat : o.data = .func fd) (hn : h.Ns dx mD) (hv : mD "read" = some v)
    (hq : Q (.done (.ret v)) ⟨h, g, d, t, os⟩) :
    wpAny (model prog w) A (Builtin.«object.__getattribute__» ⟨[.ref x, .str "read" tk], []⟩) Q E ⟨h, g, d, t, os⟩ := by
  unfold Builtin.«object.__getattribute__»
  repeat (first | (with_reducible refine wpAny_loadPart_at hx ?_; rw [hc]) | (rw [fn_lk_read]) | wp_step)
  rw [hdat]
  dsimp only
  unfold instanceDict
  repeat (first | (with_reducible refine wpAny_loadPart_at hx ?_; rw [hc]) | wp_step)
  rw [hdx]
  repeat (first | (with_reducible refine wpAny_nsGet hn ?_; rw [hv]) | wp_step)
  exact hq
theorem fn_getMethod {h : Heap} {g : Array GenState} {d : Drawn} {t : Nat} {os : OsState} {x dx : Addr} {o : Obj} {fd : FuncData} {v : Value} {mD : Str → Option Value} {pl : Sem Bool} {Q : Value × List Value → Shared → Prop}
    (hx : h.get? x = some o) (hc : o.cls = .type "function") (hdx : o.dict = some dx) (hdat : o.data = .func fd) (hn : h.Ns dx mD) (hv : mD "read" = some v) (hh : handedOut v = pure v)
    (hq : ∀ tk', Q (v, []) ⟨h, g, d, tk', os⟩) :
    wpAny (model prog w) A (getMethod (.ref x) "read" pl) Q E ⟨h, g, d, t, os⟩ := by
  unfold getMethod specialOf
  repeat (first | (with_reducible refine wpAny_loadPart_at hx ?_; rw [hc]) | (rw [fn_slot_ga.lookup]) | (rw [fn_lk_hook]) | (rw [fn_lk_read]) | wp_step)
  rw [fn_slot_ga.bind]
  refine wpAny_pure ?_
  have hT' : (⟨h, g, d, t + 1, os⟩ : Shared).TypeIs (.ref x) "function" := ⟨o, hx, hc⟩
  show wpAny _ _ (call (.builtin "object.__getattribute__") [.ref x, .str "read" t]) _ _ _
  refine wpAny_call (codeAny_call_builtin fn_slot_ga.plain fn_entry_ga (fn_slot_ga.check _ _ _ _ _ _ _ _ hT' (fn_args_ga _ _) ?_))
  refine fn_get_entry hx hc hdx hdat hn hv ?_
  show wpAny _ _ (handedOut v) _ _ _
  rw [hh]
  exact wpAny_pure (wpAny_pure (hq _))
end
end
section
open PySem Builtin
theorem ci_slot_iter : Slot "callable_iterator" "__iter__" "callable_iterator.__iter__" := .of (owner := "callable_iterator") (n := "__iter__") (by rw [typeLookup_type, builtinLookup_eq_fast]; kernel_rfl) (by decide +kernel) (by decide +kernel) (by decide +kernel)
  (by first | exact .inl (by decide +kernel) | exact .inr (by decide +kernel)) (by rw [isSubtype_type]; kernel_rfl)
theorem ci_slot_next : Slot "callable_iterator" "__next__" "callable_iterator.__next__" := .of (owner := "callable_iterator") (n := "__next__") (by rw [typeLookup_type, builtinLookup_eq_fast]; kernel_rfl) (by decide +kernel) (by decide +kernel) (by decide +kernel)
  (by first | exact .inl (by decide +kernel) | exact .inr (by decide +kernel)) (by rw [isSubtype_type]; kernel_rfl)
theorem ci_entry_next : entryFor table "callable_iterator.__next__" = some Builtin.«callable_iterator.__next__» := entryFor_of_tree (by kernel_rfl)
theorem ci_args_next (a : Value) : argsOk "callable_iterator.__next__" ⟨[a], []⟩ := by unfold argsOk; kernel_rfl
theorem ci_args_iter (a : Value) : argsOk "callable_iterator.__iter__" ⟨[a], []⟩ := by unfold argsOk; kernel_rfl
theorem mt_slot_call : Slot "method" "__call__" "method.__call__" := .of (owner := "method") (n := "__call__") (by rw [typeLookup_type, builtinLookup_eq_fast]; kernel_rfl) (by decide +kernel) (by decide +kernel) (by decide +kernel)
  (by first | exact .inl (by decide +kernel) | exact .inr (by decide +kernel)) (by rw [isSubtype_type]; kernel_rfl)
theorem ci_entry_iter : entryFor table "callable_iterator.__iter__" = some Builtin.«dict_keyiterator.__iter__» :=
  entryFor_alias (id' := "dict_keyiterator.__iter__") (by kernel_rfl) (by first | rfl | decide +kernel | (unfold String.splitOn; simp +decide [String.splitOnAux])) (by decide +kernel) (by kernel_rfl)
theorem it_kind : builtinKind "iter" = none := by decide +kernel
theorem it_plain : plainId "iter" = true := by decide +kernel
theorem it_entry : entryFor table "iter" = some Builtin.«iter» := entryFor_of_fast (by kernel_rfl)
theorem it_args (a b : Value) : argsOk "iter" ⟨[a, b], []⟩ := by unfold argsOk; kernel_rfl

noncomputable abbrev ciObj (bm : Addr) (t : Tok) : Obj := { cls := .type "callable_iterator", data := .fields #[.ref bm, .str "" t, .bool false] }

section
variable {prog : Program} {w : World} {M : Model} {A : Around} {E : Value → Shared → Prop} {s : Shared} {h₀ : Heap} {L : Addr} {m : Str → Option Value} {rest : List (Addr × Obj)}
theorem ci_pyIter {I bm : Addr} {t : Tok} {Q : Value → Shared → Prop} (hit : s.heap.get? I = some (ciObj bm t)) (h : Q (.ref I) s) : wpAny (model prog w) A (pyIter (.ref I)) Q E s := by
  have hT : s.TypeIs (.ref I) "callable_iterator" := ⟨_, hit, rfl⟩
  refine wpAny_pyIter_slot hT ci_slot_iter (wpAny_call_entry ci_slot_iter hT ci_entry_iter ?_ (ci_args_iter _))
  show wpAny _ _ (ret (.ref I)) _ _ s
  exact wpAny_pure ⟨_, rfl, "callable_iterator", _, hT, ci_slot_next.lookup, h⟩

theorem iter_new {bm f x : Addr} {t : Tok} {Q : Value → Shared → Prop} (hb : s.heap.get? bm = some (methodObj (.ref f) (.ref x)))
    (h : Q (.ref s.heap.objs.size) { s with heap := s.heap.push (ciObj bm t) }) : wpAny (model prog w) A (call (.builtin "iter") [.ref bm, .str "" t]) Q E s := by
  refine call_function_tree it_kind it_plain it_entry (it_args _ _) ?_
  show wpAny _ A.in1 (specialOf (.ref bm) "__call__" >>= _) _ _ s
  refine wpAny_bind (wpAny_specialOf ⟨_, hb, rfl⟩ mt_slot_call.lookup ?_)
  simp only [Option.isNone_some, Bool.false_eq_true, if_false]
  refine wpAny_bind (wpAny_rule (wpAny_bind (wpAny_newObj_type ?_ (by size_fits))))
  exact wpAny_pure h

theorem wpAny_callBorrowed {f : Value} {pos : List Value} {Q : Value → Shared → Prop} (h : wpAny M A (call f pos) Q E s) : wpAny M A (callBorrowed f pos) Q E s := fun Γ p hΓ => by
  have := h Γ p hΓ
  unfold call at this
  rw [Sem.wp_runValue] at this
  unfold callBorrowed
  simp only [Sem.wp]
  refine wpCode_mono (fun r s' hr => ?_) this
  cases r with
  | error e => exact hr
  | ok f => cases f <;> first | exact hr | exact hr.elim

theorem borrows_method {bm f x : Addr} {of : Obj} {fd : FuncData} {Q : Bool → Shared → Prop} (hb : s.heap.get? bm = some (methodObj (.ref f) (.ref x))) (hf : s.heap.get? f = some of) (hfd : of.data = .func fd) (h : Q true s) :
    wpAny M A (borrowsExactly (.ref bm)) Q E s := by
  unfold borrowsExactly
  refine wpAny_bind (wpAny_load hb ?_)
  dsimp only
  rw [if_pos (by decide)]
  refine wpAny_bind (wpAny_load hf ?_)
  rw [hfd]
  exact wpAny_pure h

theorem ci_next {I bm f x : Addr} {t : Tok} {of : Obj} {fd : FuncData} {Q : Option Value → Shared → Prop} (hh : A.handled = none) (hI : s.heap.get? I = some (ciObj bm t)) (hb : s.heap.get? bm = some (methodObj (.ref f) (.ref x))) (hf : s.heap.get? f = some of) (hfd : of.data = .func fd)
    (h : codeAny (model prog w) A.in1 (.call (.ref f) ⟨[.ref x], []⟩) (fun r s' => ∃ c tc, r = .ok (.ret (.str c tc)) ∧ s'.heap.get? I = some (ciObj bm t) ∧
      ((c.cps.toList ≠ [] ∧ Q (some (.str c tc)) s') ∨ (c.cps.toList = [] ∧ s'.heap.get? bm = some (methodObj (.ref f) (.ref x)) ∧ s'.heap.get? f = some of ∧ ∀ h', Heap.ExtBut I s'.heap h' → Q none { s' with heap := h' }))) s) :
    wpAny (model prog w) A (pyNext (.ref I)) Q E s := by
  have hT : s.TypeIs (.ref I) "callable_iterator" := ⟨_, hI, rfl⟩
  unfold pyNext
  refine wpAny_bind (wpAny_attempt (wpAny_callSpecial?_slot (name := Str.ofString "__next__") hT ci_slot_next
    (wpAny_call_entry ci_slot_next hT ci_entry_next ?_ (ci_args_next _))))
  show wpAny _ _ (field (.ref I) 2 >>= _) _ _ s
  refine wpAny_bind (wpAny_field hI rfl (x := .bool false) rfl ?_)
  rw [if_neg (by decide)]
  refine wpAny_bind (wpAny_field hI rfl (x := .ref bm) rfl ?_)
  refine wpAny_bind (wpAny_attempt ?_)
  unfold callOutOfASlot
  refine wpAny_bind (borrows_method hb hf hfd ?_)
  simp only [if_true]
  refine wpAny_callBorrowed (wpAny_call (ks_codeAny_call_bound hb ?_))
  refine codeAny_mono h (fun r s' hr => ?_)
  obtain ⟨c, tc, rfl, hI', hr⟩ := hr
  show wpAny _ _ (field (.ref I) 2 >>= _) _ _ s'
  refine wpAny_bind (wpAny_field hI' rfl (x := .bool false) rfl ?_)
  rw [if_neg (by decide)]
  refine wpAny_bind (wpAny_field hI' rfl (x := .str "" t) rfl ?_)
  refine wpAny_bind (wpAny_holding (SeqRoads2.EqGives.str "" c t tc _ _ _ _ _ _ ?_))
  rcases hr with ⟨hne, hq⟩ | ⟨he, hb', hf', hq⟩
  · rw [show ((("" : Str).cps.toList == c.cps.toList) : Bool) = false from by
      rw [show (("" : Str).cps.toList) = [] from rfl]
      cases hc : c.cps.toList with
      | nil => exact absurd hc hne
      | cons a l => rfl]
    simp only [Bool.not_false, if_true]
    exact wpAny_pure ⟨_, rfl, wpAny_pure hq⟩
  · rw [show ((("" : Str).cps.toList == c.cps.toList) : Bool) = true from by
      rw [show (("" : Str).cps.toList) = [] from rfl, he]; rfl]
    simp only [Bool.not_true, Bool.false_eq_true, if_false]
    refine wpAny_bind (wpAny_rule (wpAny_bind ?_))
    show wpAny _ _ (field (.ref I) 0 >>= _) _ _ _
    refine wpAny_bind (wpAny_field hI' rfl (x := .ref bm) rfl ?_)
    refine wpAny_bind ?_
    unfold slotLetsGo
    refine wpAny_bind (borrows_method hb' hf' hfd ?_)
    simp only [if_true]
    refine wpAny_pure ?_
    refine wpAny_bind (wpAny_setField_rec hI' (by simp) fun h1 hI1 e1 => ?_)
    refine wpAny_bind (wpAny_setField_rec hI1 (by simp) fun h2 hI2 e2 => ?_)
    refine wpAny_setField_rec hI2 (by simp) fun h3 hI3 e3 => ?_
    unfold SmallTypes.stopIteration
    show wpAny _ _ (newExc (.type "StopIteration") [] >>= _) _ _ _
    refine wpAny_bind ?_
    simp only [newExc, newTuple]
    refine wpAny_bind (wpAny_newObj_type ?_ (by size_fits))
    refine wpAny_bind (m := firstArgMember _ _) (wpAny_of_eq (a := Value.none) (by first | rfl | (simp only [firstArgMember]; rfl)) ?_)
    refine wpAny_newObj_type ?_ (by size_fits)
    simp only [raiseNew]
    refine wpAny_bind (wpAny_handled ?_)
    first | rw [show A.in1.handled = none from hh] | rw [hh]
    refine wpAny_bind (wpAny_pure (wpAny_throw ?_))
    refine wpAny_bind (wpAny_isInstance (T := "StopIteration") (b := true) ⟨_, Heap.get?_push_size _ rfl, rfl⟩ isSubtype_stop ?_)
    refine wpAny_pure (hq _ ?_)
    exact ((((e1.trans e2).trans e3).extBut.push _).push _)
end
end
section
open PyProof.Rows.LCg (NsObj ns_obj)
open PySem.Builtin PySem.Builtin.Str in
theorem slice_one (x : Str) {n : Nat} (hn : n ≤ x.length) : Txt.slice x (some (n : Int)) (some ((n : Int) + 1)) = ⟨((x.cps.toList.drop n).take 1).toArray⟩ := by
  show StrLaws.sliceText x (some (n : Int)) (some ((n : Int) + 1)) = _
  by_cases h : n < x.length
  · have := StrLaws.sliceText_nat x (a := n) (b := n + 1) (by lia) (by lia)
    rw [show ((n + 1 : Nat) : Int) = (n : Int) + 1 from by lia] at this
    rw [this, show n + 1 - n = 1 from by lia]
  · have e : n = x.length := by lia
    have e1 : StrLaws.sliceText x (some (n : Int)) (some ((n : Int) + 1)) = StrLaws.sliceText x (some (n : Int)) (some (n : Int)) := by
      unfold StrLaws.sliceText
      have a1 : ¬ (n : Int) < 0 := by lia
      have a2 : ¬ ((n : Int) + 1) < 0 := by lia
      have a3 : max (0 : Int) (min ((n : Int) + 1) (x.length : Int)) = n := by lia
      have a4 : max (0 : Int) (min (n : Int) (x.length : Int)) = n := by lia
      have e2 : strSliceIndices (some (n : Int)) (some ((n : Int) + 1)) 1 x.length = strSliceIndices (some (n : Int)) (some (n : Int)) 1 x.length := by
        simp [strSliceIndices, a1, a2, a3, a4]
      rw [e2]
    have := StrLaws.sliceText_nat x (a := n) (b := n) (by lia) (by lia)
    rw [e1, this]
    have hl : x.cps.toList.length = n := by rw [e]; simp [Str.length]
    rw [List.drop_eq_nil_of_le (by lia)]
    simp
/-- what a call of the stream's read does -/
noncomputable def ReadOn (w : World) (oR ocR : Obj) (fR cR at0 ca ct : Addr) (tx : Str) : Prop :=
  ∀ {gd : Option (List Code)} {cn : Str} {cs : Scope} {a : Addr} {ccd : Value} {cl : List (Str × Addr)} {outer : List Env} {A₀ : Around} {base h₀ : Heap} {L : Addr} {m : Str → Option Value} {rest : List (Addr × Obj)} {s : Shared} {R : Result → Shared → Prop} {p : Program} {loose : List Str} {mean : ExcName → Option Value} {mg mb : Str → Option Value}
    {oca oct : Obj} {n nn : Nat} {tn t1 tt : Tok},
    Below A₀ base outer h₀ → Fr h₀ L s.heap m → (Mine.hd.heap_1 w.params).In h₀ → Top p loose mean mg mb h₀ → cs.kind = .function →
    News h₀ L s.heap ((at0, listOf #[.int n tn] nn) :: (fR, oR) :: (cR, ocR) :: (ca, oca) :: (ct, oct) :: rest) → Off at0 ((fR, oR) :: (cR, ocR) :: (ca, oca) :: (ct, oct) :: rest) →
    oca.data = .cell (some (.ref at0)) → oct.data = .cell (some (.str tx tt)) → n ≤ tx.length → tx.length < 1000 →
    (∀ h' tk' tn' ts, Fr h₀ L h' m → News h₀ L h' ((at0, listOf #[.int ((n + ((tx.cps.toList.drop n).take 1).length : Nat) : Int) tn'] nn) :: (fR, oR) :: (cR, ocR) :: (ca, oca) :: (ct, oct) :: rest) → R (.ok (.ret (.str ⟨((tx.cps.toList.drop n).take 1).toArray⟩ ts))) { s with heap := h', toks := tk' }) →
    codeAny (model PySem.Challenge.rw_pg0112_01.row.prog w) (Ar 800 4500 (envX cn cs L a ccd cl :: outer) gd) (.call (.ref fR) ⟨[.int 1 t1], []⟩) R s

theorem News.drop6 {h₀ h : Heap} {L : Addr} {a b c d e x : Addr × Obj} {r : List (Addr × Obj)} (N : News h₀ L h (a :: b :: c :: d :: e :: x :: r)) : News h₀ L h (a :: b :: c :: d :: e :: r) := News.sub N (fun p hp => by
  revert p
  repeat' (first | with_reducible exact sub_nil | with_reducible exact sub_self | with_reducible exact List.mem_cons_self | with_reducible refine sub_cons ?_ ?_ | with_reducible refine sub_app ?_ ?_ | with_reducible refine List.mem_cons_of_mem _ ?_ | (with_reducible refine List.mem_append_left _ ?_; (repeat (first | with_reducible exact List.mem_cons_self | with_reducible refine List.mem_cons_of_mem _ ?_)); done) | with_reducible refine List.mem_append_right _ ?_ | with_reducible refine sub_tl ?_ | with_reducible exact sub_apl sub_self | with_reducible refine sub_apr ?_))
theorem News.toRead {h₀ h : Heap} {L : Addr} {a b c d e f g i j k : Addr × Obj} {r : List (Addr × Obj)} (N : News h₀ L h (a :: b :: c :: d :: e :: f :: g :: i :: j :: k :: r)) : News h₀ L h (i :: f :: g :: j :: k :: a :: b :: c :: d :: e :: r) := News.sub N (fun p hp => by
  revert p
  repeat' (first | with_reducible exact sub_nil | with_reducible exact sub_self | with_reducible exact List.mem_cons_self | with_reducible refine sub_cons ?_ ?_ | with_reducible refine sub_app ?_ ?_ | with_reducible refine List.mem_cons_of_mem _ ?_ | (with_reducible refine List.mem_append_left _ ?_; (repeat (first | with_reducible exact List.mem_cons_self | with_reducible refine List.mem_cons_of_mem _ ?_)); done) | with_reducible refine List.mem_append_right _ ?_ | with_reducible refine sub_tl ?_ | with_reducible exact sub_apl sub_self | with_reducible refine sub_apr ?_))
theorem News.ofRead {h₀ h : Heap} {L : Addr} {a b c d e f g i j k : Addr × Obj} {r : List (Addr × Obj)} (N : News h₀ L h (i :: f :: g :: j :: k :: a :: b :: c :: d :: e :: r)) : News h₀ L h (a :: b :: c :: d :: e :: f :: g :: i :: j :: k :: r) := News.sub N (fun p hp => by
  revert p
  repeat' (first | with_reducible exact sub_nil | with_reducible exact sub_self | with_reducible exact List.mem_cons_self | with_reducible refine sub_cons ?_ ?_ | with_reducible refine sub_app ?_ ?_ | with_reducible refine List.mem_cons_of_mem _ ?_ | (with_reducible refine List.mem_append_left _ ?_; (repeat (first | with_reducible exact List.mem_cons_self | with_reducible refine List.mem_cons_of_mem _ ?_)); done) | with_reducible refine List.mem_append_right _ ?_ | with_reducible refine sub_tl ?_ | with_reducible exact sub_apl sub_self | with_reducible refine sub_apr ?_))
/-- a lexer's places and the objects that never change -/
structure Lex where
  lx : Addr
  dl : Addr
  fS : Addr
  dS : Addr
  fR : Addr
  cR : Addr
  at0 : Addr
  ca : Addr
  ct : Addr
  pb : Addr
  oS : Obj
  oDS : Obj
  oR : Obj
  ocR : Obj
  oca : Obj
  oct : Obj
  k1 : Tok
  k2 : Tok
  k3 : Tok
  k4 : Tok
  tw : Tok
/-- its dict -/
noncomputable abbrev Lex.es (w : World) (l : Lex) (ln : Int) (tl : Tok) : List DictEntry :=
  [{ hash := PyData.keyHash w.params "lineno", key := .str "lineno" l.k1, val := .int ln tl }, { hash := PyData.keyHash w.params "instream", key := .str "instream" l.k2, val := .ref l.fS },
   { hash := PyData.keyHash w.params "whitespace", key := .str "whitespace" l.k3, val := .str "\n\t\x0d " l.tw }, { hash := PyData.keyHash w.params "pushback", key := .str "pushback" l.k4, val := .ref l.pb }]
noncomputable abbrev Lex.led (w : World) (l : Lex) (ln : Int) (tl : Tok) (n : Nat) (tn : Tok) (nn : Nat) (pbs : List Value) (np : Nat) : List (Addr × Obj) :=
  [(l.pb, listOf pbs.toArray np), (l.lx, instObj 87 l.dl), (l.dl, dictOf (l.es w ln tl) 4), (l.dS, l.oDS), (l.fS, l.oS), (l.fR, l.oR), (l.cR, l.ocR), (l.at0, listOf #[.int n tn] nn), (l.ca, l.oca), (l.ct, l.oct)]
structure Lex.Ok (w : World) (l : Lex) (tx : Str) : Prop where
  l1 : l.ct < l.ca
  l2 : l.ca < l.at0
  l3 : l.at0 < l.cR
  l4 : l.cR < l.fR
  l5 : l.fR < l.fS
  l6 : l.fS < l.dS
  l7 : l.dS < l.dl
  l8 : l.dl < l.lx
  l9 : l.lx < l.pb
  ca : l.oca.data = .cell (some (.ref l.at0))
  ct : ∃ tt, l.oct.data = .cell (some (.str tx tt))
  cls : l.oS.cls = .type "function"
  dict : l.oS.dict = some l.dS
  fd : ∃ fd, l.oS.data = .func fd
  fdR : ∃ fd, l.oR.data = .func fd
  ns : NsObj l.oDS (fun y => if y = ("read" : Str) then some (.ref l.fR) else none)
  read : ReadOn w l.oR l.ocR l.fR l.cR l.at0 l.ca l.ct tx
theorem Lex.Ok.offPb {w : World} {l : Lex} {tx : Str} (ok : l.Ok w tx) {o1 o2 o3 o4 o5 o6 o7 o8 o9 : Obj} {rest : List (Addr × Obj)} (hoff : ∀ p ∈ rest, p.1 ≠ l.pb) :
    Off l.pb ((l.lx, o1) :: (l.dl, o2) :: (l.dS, o3) :: (l.fS, o4) :: (l.fR, o5) :: (l.cR, o6) :: (l.at0, o7) :: (l.ca, o8) :: (l.ct, o9) :: rest) := by
  have b1 := ok.l9
  have b2 := Nat.lt_trans ok.l8 b1
  have b3 := Nat.lt_trans ok.l7 b2
  have b4 := Nat.lt_trans ok.l6 b3
  have b5 := Nat.lt_trans ok.l5 b4
  have b6 := Nat.lt_trans ok.l4 b5
  have b7 := Nat.lt_trans ok.l3 b6
  have b8 := Nat.lt_trans ok.l2 b7
  have b9 := Nat.lt_trans ok.l1 b8
  exact Off.cons (Nat.ne_of_lt b1) (Off.cons (Nat.ne_of_lt b2) (Off.cons (Nat.ne_of_lt b3) (Off.cons (Nat.ne_of_lt b4) (Off.cons (Nat.ne_of_lt b5) (Off.cons (Nat.ne_of_lt b6) (Off.cons (Nat.ne_of_lt b7) (Off.cons (Nat.ne_of_lt b8) (Off.cons (Nat.ne_of_lt b9) hoff))))))))
theorem Lex.Ok.lePb {w : World} {l : Lex} {tx : Str} (ok : l.Ok w tx) {ln : Int} {tl tn : Tok} {n nn np : Nat} {pbs : List Value} : ∀ p ∈ l.led w ln tl n tn nn pbs np, p.1 ≤ l.pb := by
  intro p hp
  have q := ok.offPb (o1 := instObj 87 l.dl) (o2 := dictOf (l.es w ln tl) 4) (o3 := l.oDS) (o4 := l.oS) (o5 := l.oR) (o6 := l.ocR) (o7 := listOf #[.int n tn] nn) (o8 := l.oca) (o9 := l.oct) (rest := []) (fun _ h => nomatch h)
  have b1 := ok.l9
  have b2 := Nat.lt_trans ok.l8 b1
  have b3 := Nat.lt_trans ok.l7 b2
  have b4 := Nat.lt_trans ok.l6 b3
  have b5 := Nat.lt_trans ok.l5 b4
  have b6 := Nat.lt_trans ok.l4 b5
  have b7 := Nat.lt_trans ok.l3 b6
  have b8 := Nat.lt_trans ok.l2 b7
  have b9 := Nat.lt_trans ok.l1 b8
  simp only [List.mem_cons, List.not_mem_nil, or_false] at hp
  rcases hp with rfl | rfl | rfl | rfl | rfl | rfl | rfl | rfl | rfl | rfl
  · exact Nat.le_refl _
  · exact Nat.le_of_lt b1
  · exact Nat.le_of_lt b2
  · exact Nat.le_of_lt b3
  · exact Nat.le_of_lt b4
  · exact Nat.le_of_lt b5
  · exact Nat.le_of_lt b6
  · exact Nat.le_of_lt b7
  · exact Nat.le_of_lt b8
  · exact Nat.le_of_lt b9
theorem News.in2 {h₀ h : Heap} {L : Addr} {x y : Addr × Obj} {l r : List (Addr × Obj)} (N : News h₀ L h (x :: y :: (l ++ r))) : News h₀ L h (l ++ x :: y :: r) := News.sub N (fun p hp => by
  rcases List.mem_append.mp hp with hp | hp
  · exact .tail _ (.tail _ (List.mem_append_left _ hp))
  · rcases List.mem_cons.mp hp with rfl | hp
    · exact .head _
    · rcases List.mem_cons.mp hp with rfl | hp
      · exact .tail _ (.head _)
      · exact .tail _ (.tail _ (List.mem_append_right _ hp)))
theorem News.out2 {h₀ h : Heap} {L : Addr} {x y : Addr × Obj} {l r : List (Addr × Obj)} (N : News h₀ L h (l ++ x :: y :: r)) : News h₀ L h (x :: y :: (l ++ r)) := News.sub N (fun p hp => by
  rcases List.mem_cons.mp hp with rfl | hp
  · exact List.mem_append_right _ (.head _)
  · rcases List.mem_cons.mp hp with rfl | hp
    · exact List.mem_append_right _ (.tail _ (.head _))
    · rcases List.mem_append.mp hp with hp | hp
      · exact List.mem_append_left _ hp
      · exact List.mem_append_right _ (.tail _ (.tail _ hp)))
end
section
theorem lexer_spec {w : World} {gd : Option (List Code)} {cn : Str} {cs : Scope} {a : Addr} {ccd : Value} {cl : List (Str × Addr)} {outer : List Env} {A₀ : Around} {base h₀ : Heap} {L : Addr} {m : Str → Option Value} {rest : List (Addr × Obj)} {s : Shared} {Q E : Value → Shared → Prop} {p : Program} {loose : List Str} {mean : ExcName → Option Value} {mg mb : Str → Option Value} {tx : Str} {tt : Tok}
    (B : Below A₀ base outer h₀) (F : Fr h₀ L s.heap m) (X₀ : (Mine.hd.heap_1 w.params).In h₀) (T : Top p loose mean mg mb h₀) (hk : cs.kind = .function) (C : CodeHd h₀ 97 93) (N : News h₀ L s.heap ((93, tabObj #[]) :: rest)) (o93 : Off 93 rest)
    (h : ∀ h' tk' (l : Lex) ps tl tn, Fr h₀ L h' m → News h₀ L h' (l.led w 1 tl 0 tn 0 [] 0 ++ (93, tabObj ps) :: rest) → l.Ok w tx → (∀ p ∈ (93, tabObj ps) :: rest, p.1 < l.ct) → Q (.ref l.lx) { s with heap := h', toks := tk' }) :
    wpAny (model PySem.Challenge.rw_pg0112_01.row.prog w) (Ar 840 4700 (envX cn cs L a ccd cl :: outer) gd) (call (.ref 98) [.str tx tt]) Q E s := by
  revert X₀; k_fill; intro X₀
  refine wpAny_call ?_
  refine code_defC B F X₀ N T rfl rfl hk (by k_is) (by k_is) (by k_room) (BindsTo.of_eq rfl) rfl (by decide +kernel) ?_ rfl rfl rfl
  intro g' L' h' tk' cells' FG F' N' Y' B' X' T' l1
  try dsimp only
  try k_fold
  have Cg : CodeHd g' 97 93 := C.keeps FG.keep
  clear C
  refine goal_G fun GG hGG => ?_
  obtain ⟨o1, o2, hE, d1, d2⟩ := CellsAre.two Y'
  refine hGG ?_
  clear hGG GG
  subst hE
  clear Y'
  simp only [List.cons_append, List.nil_append] at N'
  first | refine Exists.elim (Fr.some F' [] trivial) fun u F1 => ?_ | refine and_on2 (Fr.some F' [] trivial) fun u F1 => ?_
  clear F'
  walk
  have e2 : o2.data = .cell (some (.str tx tt)) := d2
  rename_i at0 _ F2 N2 lt2
  have l1' : ∀ p ∈ (93, tabObj #[]) :: rest, p.1 < L' := l1
  have oc1 : Off (L' + 1 + 1) ((L' + 1, o2) :: (93, tabObj #[]) :: rest) := Off.cons (Nat.ne_of_lt (Nat.lt_succ_self _)) (fun p hp => Nat.ne_of_lt (Nat.lt_succ_of_lt (Nat.lt_succ_of_lt (l1 p hp))))
  refine storeX_C F2 N2 rfl (UpdF.tail (Nat.ne_of_gt lt2.1) (UpdF.head oc1)) d1 ?_
  intro h3 c1 F3 N3 e1
  clear F2 N2
  walk
  have l93 : 93 < L' := l1 _ (.head _)
  refine nestDef_K rfl rfl rfl ?_
  refine nest_K F3 N3 T' Cg rfl (UpdF.tail (Nat.ne_of_gt lt2.2.2.1) (UpdF.tail (Nat.ne_of_gt (Nat.lt_succ_of_lt (Nat.lt_succ_of_lt l93))) (UpdF.tail (Nat.ne_of_gt (Nat.lt_succ_of_lt l93)) (UpdF.head o93)))) trivial rfl rfl ?_
  intro fR cR ocR vsR tR ctR docR h4 tk4 F4 N4 dR1 dR2 ltc ltf
  dsimp only at N4
  generalize hoR : fnMade _ _ _ _ _ _ _ _ _ _ = oR at N4
  have hread : ReadOn w oR ocR fR cR at0 (L' + 1 + 1) (L' + 1) tx := by
    clear N4 F4
    subst hoR
    intro gd cn cs a ccd cl outer A₀ base h₀ L m rest s R p loose mean mg mb oca oct n nn tn t1 tt B F X₀ T hk N hoff e1 e2 hn hlen h
    have CR : s.heap.CodeRec (.ref cR) _ := codeRec_news N (.tail _ (.tail _ (.head _))) dR1 dR2
    refine code_nest B F X₀ N T rfl rfl hk (.tail _ (.head _)) CR (by k_room) (BindsTo.of_eq rfl) (locs rfl) ?_ rfl rfl rfl (by decide)
    k_whole
    intro g1 L1 h1 FG1 F1 N1 B1 X1 T1
    first | refine Exists.elim (Fr.some F1 [("size", .int 1 t1)] ⟨rfl, trivial⟩) fun u1 F1 => ?_ | refine and_on2 (Fr.some F1 [("size", .int 1 t1)] ⟨rfl, trivial⟩) fun u1 F1 => ?_
    try dsimp only
    try k_fold
    iterate 20 (try (walk1; try dsimp only))
    refine slice_strN_ss (s := ⟨_, _, _, _, _⟩) F1 N1 ?_ (hsz := by rw [sizeLine_eq]; omega)
    intro h2 tS k2 F2 N2
    clear F1 N1
    rw [show [(n : Int)].getD (Int.toNat 0) 0 = (n : Int) from rfl, slice_one tx hn]
    generalize hsg : ((tx.cps.toList.drop n).take 1) = sg at h ⊢
    have hsl : sg.length ≤ 1 := by rw [← hsg, List.length_take]; omega
    iterate 20 (try (walk1; try dsimp only))
    refine P.len_str (by rw [show (Str.length ⟨sg.toArray⟩) = sg.length from by simp [Str.length]]; omega) ?_
    rw [show (Str.length ⟨sg.toArray⟩) = sg.length from by simp [Str.length], show [(n : Int)].getD (Int.toNat 0) 0 = (n : Int) from rfl]
    iterate 10 (try (walk1; try dsimp only))
    rename Fr g1 L1 _ _ => F3
    rename News g1 L1 _ _ => N3
    refine store_gen (vs := [.int n tn]) F3 N3 hoff (by decide) (by simp) (by simp) ?_
    intro h4 F4 N4
    replace N4 : News g1 L1 h4 ((at0, listOf #[.int ((n : Int) + (sg.length : Int)) _] nn) :: _) := N4
    rw [show (n : Int) + (sg.length : Int) = ((n + sg.length : Nat) : Int) from by omega] at N4
    clear F3 N3
    iterate 10 (try (walk1; try dsimp only))
    exact h _ _ _ _ (by assumption) (by assumption)
  clear F3 N3
  walk
  rename Fr g' L' _ _ => F5
  rename News g' L' _ _ => N5
  have nRc : 93 < cR := Nat.lt_trans lt2.2.2.1 (ltc _ (.head _))
  have nRf : 93 < fR := Nat.lt_trans nRc ltf
  refine kla_eval rfl ?_
  refine kla_nest F5 N5 T' Cg rfl (UpdF.tail (Nat.ne_of_gt nRf) (UpdF.tail (Nat.ne_of_gt nRc) (UpdF.tail (Nat.ne_of_gt lt2.2.2.1) (UpdF.tail (Nat.ne_of_gt (Nat.lt_succ_of_lt (Nat.lt_succ_of_lt l93))) (UpdF.tail (Nat.ne_of_gt (Nat.lt_succ_of_lt l93)) (UpdF.head o93)))))) (by kn_triples) (by kn_among) rfl ?_
  intro fS cS ocS vsS tS ctS h5 tk5 F6 N6 dS1 dS2 ltc2 ltf2
  dsimp only at N6
  clear F5 N5
  walk
  rename Fr g' L' _ _ => F7
  rename News g' L' _ _ => N7
  refine fn_setattr F7 N7 ?_ rfl rfl rfl ?_
  · intro p hp
    simp only [List.mem_cons] at hp
    rcases hp with rfl | rfl | rfl | rfl | rfl | rfl | rfl | hp
    · exact Nat.ne_of_lt ltf2
    · exact Nat.ne_of_lt (Nat.lt_trans (ltc2 _ (.head _)) ltf2)
    · exact Nat.ne_of_lt (Nat.lt_trans (ltc2 _ (.tail _ (.head _))) ltf2)
    · exact Nat.ne_of_lt (Nat.lt_trans (ltc2 _ (.tail _ (.tail _ (.head _)))) ltf2)
    · exact Nat.ne_of_lt (Nat.lt_trans (ltc2 _ (.tail _ (.tail _ (.tail _ (.head _))))) ltf2)
    · exact Nat.ne_of_lt (Nat.lt_trans (ltc2 _ (.tail _ (.tail _ (.tail _ (.tail _ (.head _)))))) ltf2)
    · exact Nat.ne_of_lt (Nat.lt_trans (Nat.lt_trans nRc (ltc2 _ (.tail _ (.head _)))) ltf2)
    · exact Nat.ne_of_lt (Nat.lt_trans (ltc2 _ (.tail _ (.tail _ (.tail _ (.tail _ (.tail _ (.tail _ hp))))))) ltf2)
  intro dS oDS h8 tk8 F8 N8 hDS lt8
  clear F7 N7
  walk
  iterate 20 (walk1; try dsimp only)
  walk
  rename Fr h₀ L _ _ => FE
  rename News h₀ L _ _ => NE
  have q3 : at0 < cR := ltc _ (.head _)
  have q5 : fR < cS := ltc2 _ (.head _)
  have q6 : fS < dS := lt8 _ (.head _)
  refine h _ _ { lx := _, dl := _, fS := fS, dS := dS, fR := fR, cR := cR, at0 := at0, ca := L' + 1 + 1, ct := L' + 1, pb := _, oS := _, oDS := oDS, oR := oR, ocR := ocR, oca := c1, oct := o2, k1 := _, k2 := _, k3 := _, k4 := _, tw := _ } _ _ _ FE (News.drop6 NE) ?_ ?_
  · refine ⟨Nat.lt_succ_self _, lt2.1, q3, ltf, Nat.lt_trans q5 ltf2, q6, ?_, ?_, ?_, e1, ⟨tt, e2⟩, rfl, rfl, ⟨_, rfl⟩, ⟨_, by rw [← hoR]⟩, hDS, hread⟩
    all_goals dsimp only
    all_goals (show @LT.lt Nat _ _ _; omega)
  · intro p hp
    rcases List.mem_cons.mp hp with rfl | hp
    · exact Nat.lt_succ_of_lt l93
    · exact Nat.lt_succ_of_lt (l1 p (.tail _ hp))
end
section
open PyProof.Rows.LCg (NsObj ns_obj)

theorem nl_true {sg : List Nat} (h : ((⟨sg.toArray⟩ : Str) == ("\n" : Str)) = true) : sg = [10] := by
  have e := congrArg Str.cps (eq_of_beq h)
  have e2 : sg.toArray = #[10] := e
  simpa using congrArg Array.toList e2
theorem nl_false {sg : List Nat} (h : ((⟨sg.toArray⟩ : Str) == ("\n" : Str)) = false) : sg ≠ [10] := fun e => by
  subst e
  exact absurd h (by decide)
theorem readchar_spec {w : World} {gd : Option (List Code)} {cn : Str} {cs : Scope} {a : Addr} {ccd : Value} {cl : List (Str × Addr)} {outer : List Env} {A₀ : Around} {base h₀ : Heap} {L : Addr} {m : Str → Option Value} {rest : List (Addr × Obj)} {s : Shared} {Q E : Value → Shared → Prop} {p : Program} {loose : List Str} {mean : ExcName → Option Value} {mg mb : Str → Option Value} {R : Result → Shared → Prop} {l : Lex} {tx : Str} {ln : Int} {tl tn : Tok} {n nn np : Nat} {pbs : List Value}
    (B : Below A₀ base outer h₀) (F : Fr h₀ L s.heap m) (X₀ : (Mine.hd.heap_1 w.params).In h₀) (T : Top p loose mean mg mb h₀) (hk : cs.kind = .function) (N : News h₀ L s.heap (l.led w ln tl n tn nn pbs np ++ rest)) (ok : l.Ok w tx) (hoff : ∀ p ∈ rest, p.1 ≠ l.dl ∧ p.1 ≠ l.at0)
    (hn : n ≤ tx.length) (hl : tx.length < 1000) (hln : 0 ≤ ln ∧ ln < 10000)
    (h : ∀ h' tk' tl' tn' ts, Fr h₀ L h' m → News h₀ L h' (l.led w (ln + (if (tx.cps.toList.drop n).take 1 = [10] then 1 else 0)) tl' (n + ((tx.cps.toList.drop n).take 1).length) tn' nn pbs np ++ rest) → R (.ok (.ret (.str ⟨((tx.cps.toList.drop n).take 1).toArray⟩ ts))) { s with heap := h', toks := tk' }) :
    codeAny (model PySem.Challenge.rw_pg0112_01.row.prog w) (Ar 790 4450 (envX cn cs L a ccd cl :: outer) gd) (.call (.ref 70) ⟨[.ref l.lx], []⟩) R s := by
  revert X₀; k_fill; intro X₀
  k_dflt ktr_enter
  rename_i g' L' h' FG F' N' B' X' T'
  first | refine Exists.elim (Fr.some F' [("self", .ref l.lx)] ⟨rfl, trivial⟩) fun u F1 => ?_ | refine and_on2 (Fr.some F' [("self", .ref l.lx)] ⟨rfl, trivial⟩) fun u F1 => ?_
  clear F'
  simp only [Lex.led, Lex.es, List.cons_append, List.nil_append] at N'
  walk
  first | refine Exists.elim (ok.fd) fun fd hfd => ?_ | refine and_on2 (ok.fd) fun fd hfd => ?_
  first | refine Exists.elim (ok.fdR) fun fdR hfdR => ?_ | refine and_on2 (ok.fdR) fun fdR hfdR => ?_
  have mS : (l.fS, l.oS) ∈ l.led w ln tl n tn nn pbs np ++ rest := List.mem_append_left _ (by simp)
  have mDS : (l.dS, l.oDS) ∈ l.led w ln tl n tn nn pbs np ++ rest := List.mem_append_left _ (by simp)
  have mFR : (l.fR, l.oR) ∈ l.led w ln tl n tn nn pbs np ++ rest := List.mem_append_left _ (by simp)
  refine fn_getMethod (N' _ mS).1 ok.cls ok.dict hfd (ok.ns.ns (N' _ mDS).1) (if_pos rfl) rfl ?_
  intro tk2
  dsimp only
  have fnat : ∀ {h : Heap}, h.get? l.fR = some l.oR → FnAt l.fR h := fun {h} e => by
    obtain ⟨a, b, c, d⟩ : ∃ a b c, l.oR = ⟨a, b, .func fdR, c⟩ := ⟨l.oR.cls, l.oR.dict, l.oR.slots, by rw [← hfdR]⟩
    exact ⟨a, b, fdR, c, by rw [e, d]⟩
  refine callWith_F (fnat (N' _ mFR).1) ?_
  iterate 3 (try (walk1; try dsimp only))
  refine ⟨fnat (N' _ mFR).1, wpAny_call (liftC (d := 800) (u := 4500) rfl (Nat.le_of_ble_eq_true rfl) rfl (Nat.le_of_ble_eq_true rfl) ?_)⟩
  first | refine Exists.elim (ok.ct) fun tt hct => ?_ | refine and_on2 (ok.ct) fun tt hct => ?_
  have a1 : l.at0 < l.fR := Nat.lt_trans ok.l3 ok.l4
  have a2 : l.at0 < l.fS := Nat.lt_trans a1 ok.l5
  have a3 : l.at0 < l.dS := Nat.lt_trans a2 ok.l6
  have a4 : l.at0 < l.dl := Nat.lt_trans a3 ok.l7
  have a5 : l.at0 < l.lx := Nat.lt_trans a4 ok.l8
  have a6 : l.at0 < l.pb := Nat.lt_trans a5 ok.l9
  have a7 : l.ct < l.at0 := Nat.lt_trans ok.l1 ok.l2
  refine ok.read (cl := []) B' F1 X' T' rfl (News.toRead N') ?_ ok.ca hct hn hl ?_
  · intro p hp
    simp only [List.mem_cons] at hp
    rcases hp with rfl | rfl | rfl | rfl | rfl | rfl | rfl | rfl | rfl | hp
    · exact Nat.ne_of_gt a1
    · exact Nat.ne_of_gt ok.l3
    · exact Nat.ne_of_lt ok.l2
    · exact Nat.ne_of_lt a7
    · exact Nat.ne_of_gt a6
    · exact Nat.ne_of_gt a5
    · exact Nat.ne_of_gt a4
    · exact Nat.ne_of_gt a3
    · exact Nat.ne_of_gt a2
    · exact (hoff p hp).2
  intro h3 tk3 tn3 ts F3 N3
  clear F1
  dsimp only
  generalize hsg : ((tx.cps.toList.drop n).take 1) = sg at h N3 ⊢
  have N4 := News.ofRead N3
  clear N3 N'
  walk
  · rename (_ == _) = true => hnl
    rename Fr g' L' _ _ => F5
    rename News g' L' _ _ => N5
    have e1 := nl_true hnl
    have b1 : l.dl < l.lx := ok.l8
    have b2 : l.dl < l.pb := Nat.lt_trans b1 ok.l9
    have b3 : l.fS < l.dl := Nat.lt_trans ok.l6 ok.l7
    have b4 : l.fR < l.dl := Nat.lt_trans ok.l5 b3
    have b5 : l.cR < l.dl := Nat.lt_trans ok.l4 b4
    have b6 : l.ca < l.dl := Nat.lt_trans ok.l2 a4
    have b7 : l.ct < l.dl := Nat.lt_trans ok.l1 b6
    refine' set_dict ?k1 ?k2 ?k3 ?k4 ?k5 ?k6 ?k7 ?k8 ?k9 ?k10 ?k11 ?k12 ?k13 ?_
    (case k1 => exact F5)
    (case k2 => exact X')
    (case k3 => exact N5)
    (case k4 => k_inst)
    (case k5 => exact rfl)
    (case k6 => k_is)
    (case k7 => k_is)
    (case k8 => k_is)
    (case k9 => k_is)
    (case k10 => k_get)
    (case k11 => k_put)
    (case k12 =>
      refine Upd.tail (Nat.ne_of_gt b2) (Upd.tail (Nat.ne_of_gt b1) (Upd.head ?_))
      intro p hp
      simp only [List.mem_cons] at hp
      rcases hp with rfl | rfl | rfl | rfl | rfl | rfl | rfl | hp
      · exact Nat.ne_of_lt ok.l7
      · exact Nat.ne_of_lt b3
      · exact Nat.ne_of_lt b4
      · exact Nat.ne_of_lt b5
      · exact Nat.ne_of_lt a4
      · exact Nat.ne_of_lt b6
      · exact Nat.ne_of_lt b7
      · exact (hoff p hp).1)
    (case k13 => exact Nat.le_of_ble_eq_true rfl)
    intro h6 F6 N6
    clear F5 N5
    walk
    rw [if_pos e1] at h
    exact h _ _ _ _ _ (by assumption) (by assumption)
  · rename (_ == _) = false => hnl
    have e1 := nl_false hnl
    rw [if_neg e1, Int.add_zero] at h
    exact h _ _ _ _ _ (by assumption) (by assumption)
end
section
open PyProof.Rows.LCg (NsObj ns_obj)

theorem gettok_pb {w : World} {gd : Option (List Code)} {cn : Str} {cs : Scope} {a : Addr} {ccd : Value} {cl : List (Str × Addr)} {outer : List Env} {A₀ : Around} {base h₀ : Heap} {L : Addr} {m : Str → Option Value} {rest : List (Addr × Obj)} {s : Shared} {Q E : Value → Shared → Prop} {p : Program} {loose : List Str} {mean : ExcName → Option Value} {mg mb : Str → Option Value} {l : Lex} {tx : Str} {ln : Int} {tl tn : Tok} {n nn np : Nat} {v : Value} {pbs : List Value}
    (B : Below A₀ base outer h₀) (F : Fr h₀ L s.heap m) (X₀ : (Mine.hd.heap_1 w.params).In h₀) (T : Top p loose mean mg mb h₀) (hk : cs.kind = .function) (N : News h₀ L s.heap (l.led w ln tl n tn nn (v :: pbs) np ++ rest)) (ok : l.Ok w tx) (hoff : ∀ p ∈ rest, p.1 ≠ l.pb) (hsz : pbs.length < 100)
    (h : ∀ h' tk' np', Fr h₀ L h' m → News h₀ L h' (l.led w ln tl n tn nn pbs np' ++ rest) → Q v { s with heap := h', toks := tk' }) :
    wpAny (model PySem.Challenge.rw_pg0112_01.row.prog w) (Ar 780 4300 (envX cn cs L a ccd cl :: outer) gd) (call (.ref 77) [.ref l.lx]) Q E s := by
  revert X₀; k_fill; intro X₀
  refine wpAny_call ?_
  k_dflt ktr_enter
  rename_i g' L' h' FG F' N' B' X' T'
  first | refine Exists.elim (Fr.some F' [("self", .ref l.lx)] ⟨rfl, trivial⟩) fun u F1 => ?_ | refine and_on2 (Fr.some F' [("self", .ref l.lx)] ⟨rfl, trivial⟩) fun u F1 => ?_
  clear F'
  simp only [Lex.led, Lex.es, List.cons_append, List.nil_append] at N'
  walk
  rename Fr g' L' _ _ => F2
  rename News g' L' _ _ => N2
  refine kl_popAt (its := (v :: pbs).toArray) (k := 0) (p := []) (y := v) (q := pbs) F2 N2 (by decide) (by simp [seqIndex?]) rfl (Upd.head (ok.offPb hoff)) (by rw [sizeLine_eq]; simp; omega) ?_
  intro h3 F3 N3
  clear F2 N2
  walk
  exact h _ _ _ (by assumption) (by assumption)
theorem push_spec {w : World} {gd : Option (List Code)} {cn : Str} {cs : Scope} {a : Addr} {ccd : Value} {cl : List (Str × Addr)} {outer : List Env} {A₀ : Around} {base h₀ : Heap} {L : Addr} {m : Str → Option Value} {rest : List (Addr × Obj)} {s : Shared} {Q E : Value → Shared → Prop} {p : Program} {loose : List Str} {mean : ExcName → Option Value} {mg mb : Str → Option Value} {l : Lex} {tx : Str} {ln : Int} {tl tn : Tok} {n nn np : Nat} {v : Value} {pbs : List Value}
    (B : Below A₀ base outer h₀) (F : Fr h₀ L s.heap m) (X₀ : (Mine.hd.heap_1 w.params).In h₀) (T : Top p loose mean mg mb h₀) (hk : cs.kind = .function) (N : News h₀ L s.heap (l.led w ln tl n tn nn pbs np ++ rest)) (ok : l.Ok w tx) (hoff : ∀ p ∈ rest, p.1 ≠ l.pb) (hsz : pbs.length < 100)
    (h : ∀ h' tk' np', Fr h₀ L h' m → News h₀ L h' (l.led w ln tl n tn nn (pbs ++ [v]) np' ++ rest) → Q .none { s with heap := h', toks := tk' }) :
    wpAny (model PySem.Challenge.rw_pg0112_01.row.prog w) (Ar 780 4300 (envX cn cs L a ccd cl :: outer) gd) (call (.ref 84) [.ref l.lx, v]) Q E s := by
  revert X₀; k_fill; intro X₀
  refine wpAny_call ?_
  k_dflt ktr_enter
  rename_i g' L' h' FG F' N' B' X' T'
  first | refine Exists.elim (Fr.some F' [("self", .ref l.lx), ("token", v)] ⟨rfl, rfl, trivial⟩) fun u F1 => ?_ | refine and_on2 (Fr.some F' [("self", .ref l.lx), ("token", v)] ⟨rfl, rfl, trivial⟩) fun u F1 => ?_
  clear F'
  simp only [Lex.led, Lex.es, List.cons_append, List.nil_append] at N'
  walk
  rename Fr g' L' _ _ => F2
  rename News g' L' _ _ => N2
  refine append_K F2 N2 (Upd.head (ok.offPb hoff)) ?_ (by rw [sizeLine_eq]; simp; omega)
  intro h3 F3 N3
  rw [show pbs.toArray.push v = (pbs ++ [v]).toArray from by simp] at N3
  clear F2 N2
  walk
  exact h _ _ _ (by assumption) (by assumption)
end
section
open PyProof.Rows.LCg (NsObj ns_obj)

theorem fn70 {h₀ h : Heap} {L : Addr} {m : Str → Option Value} {w : World} (X₀ : (Mine.hd.heap_1 w.params).In h₀) (F : Fr h₀ L h m) : ∃ of fd, h.get? 70 = some of ∧ of.data = .func fd := by
  have e : ∃ of fd, (Mine.hd.heap_1 w.params).lookup 70 = some of ∧ of.data = .func fd := ⟨_, _, rfl, rfl⟩
  refine goal_G fun GG hGG => ?_
  obtain ⟨of, fd, e1, e2⟩ := e
  refine hGG ?_
  clear hGG GG
  exact ⟨of, fd, F.keep _ _ (X₀ _ _ e1), e2⟩

noncomputable abbrev ciLed (l : Lex) (I bm : Addr) (t : Tok) (x : List (Addr × Obj)) : List (Addr × Obj) := (I, ciObj bm t) :: (bm, methodObj (.ref 70) (.ref l.lx)) :: x

theorem ci_read {w : World} {gd : Option (List Code)} {cn : Str} {cs : Scope} {a : Addr} {ccd : Value} {cl : List (Str × Addr)} {outer : List Env} {A₀ : Around} {base h₀ : Heap} {L : Addr} {m : Str → Option Value} {rest : List (Addr × Obj)} {s : Shared} {Q E : Value → Shared → Prop} {p : Program} {loose : List Str} {mean : ExcName → Option Value} {mg mb : Str → Option Value} {QO : Option Value → Shared → Prop} {l : Lex} {tx : Str} {ln : Int} {tl tn t : Tok} {n nn np : Nat} {pbs : List Value} {I bm : Addr}
    (B : Below A₀ base outer h₀) (F : Fr h₀ L s.heap m) (X₀ : (Mine.hd.heap_1 w.params).In h₀) (T : Top p loose mean mg mb h₀) (hk : cs.kind = .function) (N : News h₀ L s.heap (ciLed l I bm t (l.led w ln tl n tn nn pbs np ++ rest))) (ok : l.Ok w tx) (hoff : ∀ p ∈ rest, p.1 ≠ l.dl ∧ p.1 ≠ l.at0)
    (hb : l.pb < bm) (hI : bm < I) (hIr : ∀ p ∈ rest, p.1 ≠ I ∧ p.1 ≠ bm)
    (hn : n ≤ tx.length) (hl : tx.length < 1000) (hln : 0 ≤ ln ∧ ln < 10000)
    (h1 : ∀ h' tk' tl' tn' ts c, (tx.cps.toList.drop n).take 1 = [c] → Fr h₀ L h' m → News h₀ L h' (ciLed l I bm t (l.led w (ln + (if c = 10 then 1 else 0)) tl' (n + 1) tn' nn pbs np ++ rest)) → QO (some (.str ⟨#[c]⟩ ts)) { s with heap := h', toks := tk' })
    (h2 : ∀ h' tk' tl' tn', tx.cps.toList.drop n = [] → Fr h₀ L h' m → News h₀ L h' (l.led w ln tl' n tn' nn pbs np ++ rest) → QO none { s with heap := h', toks := tk' }) :
    wpAny (model PySem.Challenge.rw_pg0112_01.row.prog w) (Ar 785 4440 (envX cn cs L a ccd cl :: outer) gd) (pyNext (.ref I)) QO E s := by
  refine goal_G fun GG hGG => ?_
  obtain ⟨of, fd, hf, hfd⟩ := fn70 X₀ F
  refine hGG ?_
  clear hGG GG
  have z1 := N _ (.head _)
  have z2 := N _ (.tail _ (.head _))
  refine ci_next rfl z1.1 z2.1 hf hfd ?_
  refine liftC (d := 790) (u := 4450) rfl (Nat.le_of_ble_eq_true rfl) rfl (Nat.le_of_ble_eq_true rfl) ?_
  have hle := ok.lePb (ln := ln) (tl := tl) (tn := tn) (n := n) (nn := nn) (np := np) (pbs := pbs)
  have ldl : l.dl < l.pb := Nat.lt_trans ok.l8 ok.l9
  have lat : l.at0 < l.pb := Nat.lt_trans ok.l3 (Nat.lt_trans ok.l4 (Nat.lt_trans ok.l5 (Nat.lt_trans ok.l6 (Nat.lt_trans ok.l7 ldl))))
  have hbI : l.pb < I := Nat.lt_trans hb hI
  refine readchar_spec (Q := fun _ _ => True) (E := fun _ _ => True) (rest := (I, ciObj bm t) :: (bm, methodObj (.ref 70) (.ref l.lx)) :: rest) B F X₀ T hk (News.in2 N) ok ?_ hn hl hln ?_
  · intro p hp
    rcases List.mem_cons.mp hp with rfl | hp
    · exact ⟨Nat.ne_of_gt (Nat.lt_trans ldl hbI), Nat.ne_of_gt (Nat.lt_trans lat hbI)⟩
    · rcases List.mem_cons.mp hp with rfl | hp
      · exact ⟨Nat.ne_of_gt (Nat.lt_trans ldl hb), Nat.ne_of_gt (Nat.lt_trans lat hb)⟩
      · exact hoff p hp
  intro h' tk' tl' tn' ts F' N'
  replace N' := News.out2 N'
  have y1 := N' _ (.head _)
  have y2 := N' _ (.tail _ (.head _))
  cases hd : tx.cps.toList.drop n with
  | nil =>
    rw [hd] at N'
    have N2 : News h₀ L h' ((I, ciObj bm t) :: (bm, methodObj (.ref 70) (.ref l.lx)) :: (l.led w ln tl' n tn' nn pbs np ++ rest)) := by
      simpa using N'
    refine goal_G fun GG hGG => ?_
    obtain ⟨of', fd', hf', hfd'⟩ := fn70 X₀ F'
    refine hGG ?_
    clear hGG GG
    have eof : of' = of := by
      have a1 := X₀ 70 _ rfl
      have a2 := F.keep _ _ a1
      have a3 := F'.keep _ _ a1
      rw [hf] at a2
      rw [hf'] at a3
      rw [Option.some.inj a2, Option.some.inj a3]
    refine ⟨⟨([] : List Nat).toArray⟩, ts, rfl, y1.1, .inr ⟨rfl, y2.1, by rw [← eof]; exact hf', fun h'' hx => ?_⟩⟩
    have tt := led_lost F' N2 (fun p hp => ?_) hx
    · exact h2 h'' _ tl' tn' hd tt.1 (News.drop1 tt.2)
    · rcases List.mem_cons.mp hp with rfl | hp
      · exact Nat.ne_of_lt hI
      · rcases List.mem_append.mp hp with hp | hp
        · exact Nat.ne_of_lt (Nat.lt_of_le_of_lt (ok.lePb p hp) hbI)
        · exact (hIr p hp).1
  | cons c r =>
    rw [hd] at N'
    refine ⟨⟨[c].toArray⟩, ts, rfl, y1.1, .inl ⟨by simp, ?_⟩⟩
    refine h1 h' _ tl' tn' ts c (by rw [hd]; rfl) F' ?_
    have e : (if (c :: r).take 1 = [10] then (1 : Int) else 0) = (if c = 10 then 1 else 0) := by simp
    rw [e] at N'
    exact N'
theorem rc_call {w : World} {gd : Option (List Code)} {cn : Str} {cs : Scope} {a : Addr} {ccd : Value} {cl : List (Str × Addr)} {outer : List Env} {A₀ : Around} {base h₀ : Heap} {L : Addr} {m : Str → Option Value} {rest : List (Addr × Obj)} {s : Shared} {Q E : Value → Shared → Prop} {p : Program} {loose : List Str} {mean : ExcName → Option Value} {mg mb : Str → Option Value} {l : Lex} {tx : Str} {ln : Int} {tl tn t : Tok} {n nn np : Nat} {pbs : List Value} {I bm : Addr} {c : Nat} {X : List Nat}
    (B : Below A₀ base outer h₀) (F : Fr h₀ L s.heap m) (X₀ : (Mine.hd.heap_1 w.params).In h₀) (T : Top p loose mean mg mb h₀) (hk : cs.kind = .function) (N : News h₀ L s.heap (ciLed l I bm t (l.led w ln tl n tn nn pbs np ++ rest))) (ok : l.Ok w tx) (hoff : ∀ p ∈ rest, p.1 ≠ l.dl ∧ p.1 ≠ l.at0)
    (hb : l.pb < bm) (hI : bm < I) (hd : tx.cps.toList.drop n = c :: X) (hc : c ≠ 10)
    (hn : n ≤ tx.length) (hl : tx.length < 1000) (hln : 0 ≤ ln ∧ ln < 10000)
    (h : ∀ h' tk' tl' tn' ts, Fr h₀ L h' m → News h₀ L h' (ciLed l I bm t (l.led w ln tl' (n + 1) tn' nn pbs np ++ rest)) → Q (.str ⟨#[c]⟩ ts) { s with heap := h', toks := tk' }) :
    wpAny (model PySem.Challenge.rw_pg0112_01.row.prog w) (Ar 785 4440 (envX cn cs L a ccd cl :: outer) gd) (call (.ref 70) ([.ref l.lx] ++ [])) Q E s := by
  have ldl : l.dl < l.pb := Nat.lt_trans ok.l8 ok.l9
  have lat : l.at0 < l.pb := Nat.lt_trans ok.l3 (Nat.lt_trans ok.l4 (Nat.lt_trans ok.l5 (Nat.lt_trans ok.l6 (Nat.lt_trans ok.l7 ldl))))
  have hbI : l.pb < I := Nat.lt_trans hb hI
  refine wpAny_call (liftC (d := 790) (u := 4450) rfl (Nat.le_of_ble_eq_true rfl) rfl (Nat.le_of_ble_eq_true rfl) ?_)
  refine readchar_spec (Q := fun _ _ => True) (E := fun _ _ => True) (rest := (I, ciObj bm t) :: (bm, methodObj (.ref 70) (.ref l.lx)) :: rest) B F X₀ T hk (News.in2 N) ok ?_ hn hl hln ?_
  · intro p hp
    rcases List.mem_cons.mp hp with rfl | hp
    · exact ⟨Nat.ne_of_gt (Nat.lt_trans ldl hbI), Nat.ne_of_gt (Nat.lt_trans lat hbI)⟩
    · rcases List.mem_cons.mp hp with rfl | hp
      · exact ⟨Nat.ne_of_gt (Nat.lt_trans ldl hb), Nat.ne_of_gt (Nat.lt_trans lat hb)⟩
      · exact hoff p hp
  intro h' tk' tl' tn' ts F' N'
  replace N' := News.out2 N'
  rw [hd] at N' ⊢
  have e : (if (c :: X).take 1 = [10] then (1 : Int) else 0) = 0 := by simp [hc]
  rw [e, Int.add_zero] at N'
  exact h h' _ tl' tn' ts F' N'
end
local macro_rules | `(tactic| walk) => `(tactic| repeat' ((fail_if_success with_reducible first | refine stW ?_ | refine stF ?_ | refine stL ?_ | refine stC ?_ | refine stT ?_); walk1; try dsimp only))
section
open PyProof.Rows.LCg (NsObj ns_obj)

theorem AllLt.of {d : Addr} : ∀ {l : List (Addr × Obj)}, AllLt d l → ∀ p ∈ l, p.1 < d
  | [], _, _, hp => nomatch hp
  | _ :: _, h, _, .head _ => h.1
  | _ :: _, h, p, .tail _ hp => AllLt.of h.2 p hp
open PySem.Builtin.Str in
theorem ws_tab : (List.range 128).all (fun c => (!(occurrences ("\n\t\x0d " : Str) ⟨#[c]⟩ 0 ("\n\t\x0d " : Str).length 1).isEmpty) == (c == 9 || c == 10 || c == 13 || c == 32)) = true := by decide +kernel
open PySem.Builtin.Str in
theorem ws_of {c : Nat} (h : c < 128) : (!(occurrences ("\n\t\x0d " : Str) ⟨#[c]⟩ 0 ("\n\t\x0d " : Str).length 1).isEmpty) = (c == 9 || c == 10 || c == 13 || c == 32) :=
  beq_iff_eq.mp (List.all_eq_true.mp ws_tab c (List.mem_range.mpr h))
open PySem.Builtin.Str in
theorem ws_yes {c : Nat} (h : c = 32 ∨ c = 10 ∨ c = 9) : (!(occurrences ("\n\t\x0d " : Str) ⟨#[c]⟩ 0 ("\n\t\x0d " : Str).length 1).isEmpty) = true := by
  rcases h with rfl | rfl | rfl <;> exact ws_of (by decide)
open PySem.Builtin.Str in
theorem ws_no {c : Nat} (h : c = 34 ∨ c = 92 ∨ (48 ≤ c ∧ c ≤ 57)) : (!(occurrences ("\n\t\x0d " : Str) ⟨#[c]⟩ 0 ("\n\t\x0d " : Str).length 1).isEmpty) = false := by
  rw [ws_of (by lia)]
  have h1 : (c == 9) = false := by simp; lia
  have h2 : (c == 10) = false := by simp; lia
  have h3 : (c == 13) = false := by simp; lia
  have h4 : (c == 32) = false := by simp; lia
  rw [h1, h2, h3, h4]; rfl
theorem ch_eq (c d : Nat) : ((⟨#[c]⟩ : Str) == (⟨#[d]⟩ : Str)) = (c == d) := by
  by_cases h : c = d
  · subst h; simp
  · rw [show (c == d) = false from by simp [h]]
    cases e : ((⟨#[c]⟩ : Str) == (⟨#[d]⟩ : Str)) with
    | false => rfl
    | true =>
      have e1 := congrArg Str.cps (eq_of_beq e)
      have e2 : #[c] = #[d] := e1
      exact absurd (by simpa using congrArg Array.toList e2) h
theorem ch_q (c : Nat) : ((⟨#[c]⟩ : Str) == ("\"" : Str)) = (c == 34) := ch_eq c 34
theorem ch_b (c : Nat) : ((⟨#[c]⟩ : Str) == ("\\" : Str)) = (c == 92) := ch_eq c 92
noncomputable abbrev isDig (c : Nat) : Prop := 48 ≤ c ∧ c ≤ 57
/-- the way a word stands in the text, less the space behind a quoted one -/
noncomputable def body (word : List Nat) : Nat → List Nat
  | 0 => word ++ [10]
  | 1 => 34 :: (word ++ [34])
  | _ => word.flatMap (fun d => [92, d]) ++ [9]

theorem app_str (a b : List Nat) : (⟨a.toArray⟩ : Str) ++ (⟨b.toArray⟩ : Str) = ⟨(a ++ b).toArray⟩ := by
  show Str.append _ _ = _
  unfold Str.append
  simp
theorem drop_tail {l : List Nat} {p c : Nat} {X : List Nat} (h : l.drop p = c :: X) : l.drop (p + 1) = X := by
  have := congrArg List.tail h
  rwa [List.tail_drop] at this
theorem drop_lt {l : List Nat} {p c : Nat} {X : List Nat} (h : l.drop p = c :: X) : p < l.length := by
  have := congrArg List.length h
  rw [List.length_drop, List.length_cons] at this
  lia
theorem str_len (x : Str) : x.length = x.cps.toList.length := by simp [Str.length]
theorem gettok_read {w : World} {gd : Option (List Code)} {cn : Str} {cs : Scope} {a : Addr} {ccd : Value} {cl : List (Str × Addr)} {outer : List Env} {A₀ : Around} {base h₀ : Heap} {L : Addr} {m : Str → Option Value} {rest : List (Addr × Obj)} {s : Shared} {Q E : Value → Shared → Prop} {p : Program} {loose : List Str} {mean : ExcName → Option Value} {mg mb : Str → Option Value} {l : Lex} {tx : Str} {ln : Int} {tl tn : Tok} {n nn np : Nat} {sp : Bool} {word post : List Nat} {way : Nat}
    (B : Below A₀ base outer h₀) (F : Fr h₀ L s.heap m) (X₀ : (Mine.hd.heap_1 w.params).In h₀) (T : Top p loose mean mg mb h₀) (hk : cs.kind = .function) (N : News h₀ L s.heap (l.led w ln tl n tn nn [] np ++ rest)) (ok : l.Ok w tx) (hoff : ∀ p ∈ rest, p.1 ≠ l.dl ∧ p.1 ≠ l.at0)
    (hn : n ≤ tx.length) (hl : tx.length < 1000) (hln : 0 ≤ ln ∧ ln < 1000) (hw : ∀ d ∈ word, isDig d) (hw3 : word.length = 3) (htx : tx.cps.toList.drop n = (if sp then [32] else []) ++ (body word way ++ post)) 
    (h : ∀ h' tk' tl' tn' ts n', tx.cps.toList.drop n' = post → n' ≤ tx.length → Fr h₀ L h' m → News h₀ L h' (l.led w (ln + (if way = 0 then 1 else 0)) tl' n' tn' nn [] np ++ rest) → Q (.str ⟨word.toArray⟩ ts) { s with heap := h', toks := tk' }) :
    wpAny (model PySem.Challenge.rw_pg0112_01.row.prog w) (Ar 780 4300 (envX cn cs L a ccd cl :: outer) gd) (call (.ref 77) [.ref l.lx]) Q E s := by
  revert X₀; k_fill; intro X₀
  refine wpAny_call ?_
  k_dflt ktr_enter
  rename_i g' L' h' FG F' N' B' X' T'
  first | refine Exists.elim (Fr.some F' [("self", .ref l.lx)] ⟨rfl, trivial⟩) fun u F1 => ?_ | refine and_on2 (Fr.some F' [("self", .ref l.lx)] ⟨rfl, trivial⟩) fun u F1 => ?_
  clear F'
  simp only [Lex.led, Lex.es, List.cons_append, List.nil_append] at N'
  walk
  rename_i bm h1 F2 N2 lb
  have z2 := N2 _ (.head _)
  refine iter_new z2.1 ?_
  refine and_on3 (led_new (o := ciObj bm (tk + 1)) F2 N2 rfl) fun F3 N3 ne3 => ?_
  dsimp only
  generalize hok : ciObj bm (tk + 1) = oI at N3 F3 ⊢
  obtain ⟨tc, htc⟩ : ∃ tc, tc = tk + 1 := ⟨_, rfl⟩
  rw [← htc] at hok
  subst hok
  have hbI : bm < h1.objs.size := Heap.lt_size (N2 _ (.head _)).1
  have hrb : ∀ p ∈ rest, p.1 < bm := AllLt.of lb.2.2.2.2.2.2.2.2.2.2
  have hpb : l.pb < bm := lb.1
  clear ne3 N2 F2
  generalize h1.objs.size = I at N3 hbI ⊢
  have hIr : ∀ p ∈ rest, p.1 ≠ I ∧ p.1 ≠ bm := fun p hp => ⟨Nat.ne_of_lt (Nat.lt_trans (hrb p hp) hbI), Nat.ne_of_lt (hrb p hp)⟩
  walk
  rename Fr g' L' _ _ => F4
  rename News g' L' _ _ => N4
  refine wpAny_For ?_
  walk
  refine ci_pyIter (N4 _ (.head _)).1 ?_
  refine For_G (fun n₀ m₁ news₁ => Ex5 fun (sp : Bool) (p : Nat) (tl tn tt : Tok) => n₀ = (if sp then 1 else 0) ∧ tx.cps.toList.drop p = (if sp then [32] else []) ++ (body word way ++ post) ∧ p ≤ tx.length ∧ news₁ = ciLed l I bm tc (l.led w ln tl p tn nn [] np ++ rest) ∧ AllIs m₁ [("self", .ref l.lx), ("token", .str "" tt), ("fiter", .ref I)])
    (n₀ := if sp then 1 else 0) F4 N4 (Ex5.mk sp n tl tn _ ⟨rfl, htx, hn, rfl, ⟨rfl, rfl, rfl, trivial⟩⟩) ?_
  clear F4 N4
  intro J1 Q1 hJ1 hQ1 n₀ m₁ news₁ h₁ tk₁ F1 N1 hJJ
  refine hJJ _ fun sp p tl tn tt hAA => ?_
  refine and_on5 hAA fun hE0 hdp hp hE3 hm => ?_
  clear hAA hJJ
  refine goal_G fun GG hGG => ?_
  subst hE0
  subst hE3
  refine hGG ?_
  clear hGG GG
  first | refine Exists.elim (Fr.some F1 _ hm) fun u' F1 => ?_ | refine and_on2 (Fr.some F1 _ hm) fun u' F1 => ?_
  clear hm htx hn
  refine lift (d := 785) (u := 4440) rfl (Nat.le_of_ble_eq_true rfl) rfl (Nat.le_of_ble_eq_true rfl) (ci_read (Q := fun _ _ => True) (cl := []) B' F1 X' T' rfl N1 ok hoff hpb hbI hIr hp hl (by lia) ?_ ?_)
  · intro h2 tk2 tl2 tn2 ts c hc F2 N2
    clear F1 N1
    dsimp only
    cases sp with
    | true =>
      have hc32 : c = 32 := by
        rw [hdp] at hc
        simpa using hc.symm
      walk
      refine wpAny_truthy_bool ?_
      refine ifT (by rw [ws_yes (.inl hc32)]) ?_
      walk
      rename Fr g' L' _ _ => F3
      rename News g' L' _ _ => N3
      rw [if_neg (show ¬ c = 10 by lia), Int.add_zero] at N3
      have hdp' : tx.cps.toList.drop p = 32 :: (body word way ++ post) := hdp
      first | refine ws_next (n' := 0) (F3) (N3) (by decide) (hJ1 _ _ _ (Ex5.mk false (p + 1) tl2 tn2 tt ⟨rfl, drop_tail hdp', ?_, rfl, ⟨rfl, rfl, rfl, trivial⟩⟩)) | refine ws_cont (n' := 0) (F3) (N3) (by decide) (hJ1 _ _ _ (Ex5.mk false (p + 1) tl2 tn2 tt ⟨rfl, drop_tail hdp', ?_, rfl, ⟨rfl, rfl, rfl, trivial⟩⟩))
      have := drop_lt hdp'
      rw [str_len]; lia
    | false =>
      match way, hdp, h with
      | 0, hdp, h =>
        obtain ⟨d, dr, rfl⟩ : ∃ d dr, word = d :: dr := by
          cases word with
          | nil => simp at hw3
          | cons d dr => exact ⟨d, dr, rfl⟩
        have hcd : c = d := by
          rw [hdp] at hc
          simpa [body] using hc.symm
        subst hcd
        have hdc := hw c (.head _)
        walk
        refine wpAny_truthy_bool ?_
        refine ifF (by rw [ws_no (.inr (.inr hdc))]; decide) ?_
        walk
        refine wpAny_truthy_bool ?_
        refine ifF (by rw [ch_q, show (c == 34) = false from by simp; lia]; decide) ?_
        walk
        refine wpAny_truthy_bool ?_
        refine ifF (by rw [ch_b, show (c == 92) = false from by simp; lia]; decide) ?_
        walk
        rename Fr g' L' _ _ => F3
        rename News g' L' _ _ => N3
        rw [if_neg (show ¬ c = 10 by lia), Int.add_zero] at N3
        have hdp' : tx.cps.toList.drop p = c :: (dr ++ ([10] ++ post)) := by rw [hdp]; simp [body]
        refine wpAny_For ?_
        walk
        refine ci_pyIter (N3 _ (.head _)).1 ?_
        refine For_G (fun n₀ m₁ news₁ => Ex6 fun (dn ds : List Nat) (p : Nat) (tl tn tt : Tok) => n₀ = ds.length ∧ c :: dr = dn ++ ds ∧ tx.cps.toList.drop p = ds ++ ([10] ++ post) ∧ p ≤ tx.length ∧ news₁ = ciLed l I bm tc (l.led w ln tl p tn nn [] np ++ rest) ∧ AllIs m₁ [("self", .ref l.lx), ("token", .str ⟨dn.toArray⟩ tt), ("fiter", .ref I)])
          (n₀ := dr.length) F3 N3 (Ex6.mk ([c]) dr (p + 1) _ _ _ ⟨rfl, rfl, drop_tail hdp', by have := drop_lt hdp'; rw [str_len]; lia, rfl, ⟨rfl, rfl, rfl, trivial⟩⟩) ?_
        clear F3 N3
        intro J2 Q2 hJ2 hQ2 n₀ m₁ news₁ h₁ tk₁ F1 N1 hJJ
        refine hJJ _ fun dn ds p tl tn tt hAA => ?_
        refine and_on6 hAA fun hE0 hws hdp hp hE4 hm => ?_
        clear hAA hJJ
        refine goal_G fun GG hGG => ?_
        subst hE0
        subst hE4
        refine hGG ?_
        clear hGG GG
        first | refine Exists.elim (Fr.some F1 _ hm) fun u' F1 => ?_ | refine and_on2 (Fr.some F1 _ hm) fun u' F1 => ?_
        clear hm hdp' hc
        refine lift (d := 785) (u := 4440) rfl (Nat.le_of_ble_eq_true rfl) rfl (Nat.le_of_ble_eq_true rfl) (ci_read (Q := fun _ _ => True) (cl := []) B' F1 X' T' rfl N1 ok hoff hpb hbI hIr hp hl (by lia) ?_ ?_)
        · intro h2 tk2 tl2 tn2 ts c2 hc F2 N2
          clear F1 N1
          dsimp only
          rcases ds with _ | ⟨d, ds⟩
          · have hc2 : c2 = 10 := by
              rw [hdp] at hc
              simpa using hc.symm
            walk
            refine wpAny_truthy_bool ?_
            refine ifT (by rw [ws_yes (.inr (.inl hc2))]) ?_
            walk
            rename Fr g' L' _ _ => F3
            rename News g' L' _ _ => N3
            rw [if_pos hc2] at N3
            rw [List.append_nil] at hws
            subst hws
            have hdp' : tx.cps.toList.drop p = 10 :: post := hdp
            have hpl : p + 1 ≤ tx.length := by have := drop_lt hdp'; rw [str_len]; lia
            dsimp only [WhileStep2]
            walk
            refine hQ2 _ _ ?_
            refine hQ1 _ _ ?_
            walk
            rename News h₀ L _ _ => NE
            exact h _ _ _ _ _ (p + 1) (drop_tail hdp') hpl (by assumption) (News.drop1 (News.drop1 NE))
          · have hc2 : c2 = d := by
              rw [hdp] at hc
              simpa using hc.symm
            subst hc2
            have hdc := hw c2 (by rw [hws]; simp)
            walk
            refine wpAny_truthy_bool ?_
            refine ifF (by rw [ws_no (.inr (.inr hdc))]; decide) ?_
            walk
            refine wpAny_truthy_bool ?_
            refine ifF (by rw [ch_b, show (c2 == 92) = false from by simp; lia]; decide) ?_
            walk
            have hdl : dn.length ≤ 3 := by
              have := congrArg List.length hws
              rw [hw3, List.length_append] at this
              lia
            refine iadd_str (x := ⟨dn.toArray⟩) (y := ⟨#[c2]⟩) ?_ (by rw [sizeLine_eq]; simp [Str.length]; lia)
            intro t' tk'
            rw [show (⟨#[c2]⟩ : Str) = ⟨[c2].toArray⟩ from rfl, app_str]
            walk
            rename Fr g' L' _ _ => F3
            rename News g' L' _ _ => N3
            rw [if_neg (show ¬ c2 = 10 by lia), Int.add_zero] at N3
            have hdp' : tx.cps.toList.drop p = c2 :: (ds ++ ([10] ++ post)) := hdp
            first | exact ws_next (n' := ds.length) (F3) (N3) (by simp) (hJ2 _ _ _ (Ex6.mk (dn ++ [c2]) ds (p + 1) _ _ _ ⟨rfl, by rw [hws]; simp, drop_tail hdp', by have := drop_lt hdp'; rw [str_len]; lia, rfl, ⟨rfl, rfl, rfl, trivial⟩⟩)) | exact ws_cont (n' := ds.length) (F3) (N3) (by simp) (hJ2 _ _ _ (Ex6.mk (dn ++ [c2]) ds (p + 1) _ _ _ ⟨rfl, by rw [hws]; simp, drop_tail hdp', by have := drop_lt hdp'; rw [str_len]; lia, rfl, ⟨rfl, rfl, rfl, trivial⟩⟩))
        · intro h2 tk2 tl2 tn2 he
          rw [hdp] at he
          simp at he
      | 1, hdp, h =>
        have hc34 : c = 34 := by
          rw [hdp] at hc
          simpa [body] using hc.symm
        walk
        refine wpAny_truthy_bool ?_
        refine ifF (by rw [ws_no (.inl hc34)]; decide) ?_
        walk
        refine wpAny_truthy_bool ?_
        refine ifT (by rw [ch_q, show (c == 34) = true from by simp [hc34]]) ?_
        walk
        rename Fr g' L' _ _ => F3
        rename News g' L' _ _ => N3
        rw [if_neg (show ¬ c = 10 by lia), Int.add_zero] at N3
        have hdp' : tx.cps.toList.drop p = 34 :: (word ++ ([34] ++ post)) := by rw [hdp]; simp [body]
        refine wpAny_For ?_
        walk
        refine ci_pyIter (N3 _ (.head _)).1 ?_
        refine For_G (fun n₀ m₁ news₁ => Ex6 fun (dn ds : List Nat) (p : Nat) (tl tn tt : Tok) => n₀ = ds.length ∧ word = dn ++ ds ∧ tx.cps.toList.drop p = ds ++ ([34] ++ post) ∧ p ≤ tx.length ∧ news₁ = ciLed l I bm tc (l.led w ln tl p tn nn [] np ++ rest) ∧ AllIs m₁ [("self", .ref l.lx), ("token", .str ⟨dn.toArray⟩ tt), ("fiter", .ref I)])
          (n₀ := word.length) F3 N3 (Ex6.mk ([]) word (p + 1) _ _ _ ⟨rfl, rfl, drop_tail hdp', by have := drop_lt hdp'; rw [str_len]; lia, rfl, ⟨rfl, rfl, rfl, trivial⟩⟩) ?_
        clear F3 N3
        intro J3 Q3 hJ3 hQ3 n₀ m₁ news₁ h₁ tk₁ F1 N1 hJJ
        refine hJJ _ fun dn ds p tl tn tt hAA => ?_
        refine and_on6 hAA fun hE0 hws hdp hp hE4 hm => ?_
        clear hAA hJJ
        refine goal_G fun GG hGG => ?_
        subst hE0
        subst hE4
        refine hGG ?_
        clear hGG GG
        first | refine Exists.elim (Fr.some F1 _ hm) fun u' F1 => ?_ | refine and_on2 (Fr.some F1 _ hm) fun u' F1 => ?_
        clear hm hdp' hc
        refine lift (d := 785) (u := 4440) rfl (Nat.le_of_ble_eq_true rfl) rfl (Nat.le_of_ble_eq_true rfl) (ci_read (Q := fun _ _ => True) (cl := []) B' F1 X' T' rfl N1 ok hoff hpb hbI hIr hp hl (by lia) ?_ ?_)
        · intro h2 tk2 tl2 tn2 ts c2 hc F2 N2
          clear F1 N1
          dsimp only
          rcases ds with _ | ⟨d, ds⟩
          · have hc2 : c2 = 34 := by
              rw [hdp] at hc
              simpa using hc.symm
            walk
            refine wpAny_truthy_bool ?_
            refine ifT (by rw [ch_q, show (c2 == 34) = true from by simp [hc2]]) ?_
            walk
            rename Fr g' L' _ _ => F3
            rename News g' L' _ _ => N3
            rw [if_neg (show ¬ c2 = 10 by lia)] at N3
            rw [List.append_nil] at hws
            subst hws
            have hdp' : tx.cps.toList.drop p = 34 :: post := hdp
            have hpl : p + 1 ≤ tx.length := by have := drop_lt hdp'; rw [str_len]; lia
            dsimp only [WhileStep2]
            walk
            refine hQ3 _ _ ?_
            refine hQ1 _ _ ?_
            walk
            rename News h₀ L _ _ => NE
            exact h _ _ _ _ _ (p + 1) (drop_tail hdp') hpl (by assumption) (News.drop1 (News.drop1 NE))
          · have hc2 : c2 = d := by
              rw [hdp] at hc
              simpa using hc.symm
            subst hc2
            have hdc := hw c2 (by rw [hws]; simp)
            walk
            refine wpAny_truthy_bool ?_
            refine ifF (by rw [ch_q, show (c2 == 34) = false from by simp; lia]; decide) ?_
            walk
            refine wpAny_truthy_bool ?_
            refine ifF (by rw [ch_b, show (c2 == 92) = false from by simp; lia]; decide) ?_
            walk
            have hdl : dn.length ≤ 3 := by
              have := congrArg List.length hws
              rw [hw3, List.length_append] at this
              lia
            refine iadd_str (x := ⟨dn.toArray⟩) (y := ⟨#[c2]⟩) ?_ (by rw [sizeLine_eq]; simp [Str.length]; lia)
            intro t' tk'
            rw [show (⟨#[c2]⟩ : Str) = ⟨[c2].toArray⟩ from rfl, app_str]
            walk
            rename Fr g' L' _ _ => F3
            rename News g' L' _ _ => N3
            rw [if_neg (show ¬ c2 = 10 by lia), Int.add_zero] at N3
            have hdp' : tx.cps.toList.drop p = c2 :: (ds ++ ([34] ++ post)) := hdp
            first | exact ws_next (n' := ds.length) (F3) (N3) (by simp) (hJ3 _ _ _ (Ex6.mk (dn ++ [c2]) ds (p + 1) _ _ _ ⟨rfl, by rw [hws]; simp, drop_tail hdp', by have := drop_lt hdp'; rw [str_len]; lia, rfl, ⟨rfl, rfl, rfl, trivial⟩⟩)) | exact ws_cont (n' := ds.length) (F3) (N3) (by simp) (hJ3 _ _ _ (Ex6.mk (dn ++ [c2]) ds (p + 1) _ _ _ ⟨rfl, by rw [hws]; simp, drop_tail hdp', by have := drop_lt hdp'; rw [str_len]; lia, rfl, ⟨rfl, rfl, rfl, trivial⟩⟩))
        · intro h2 tk2 tl2 tn2 he
          rw [hdp] at he
          simp at he
      | way + 2, hdp, h =>
        obtain ⟨d, dr, rfl⟩ : ∃ d dr, word = d :: dr := by
          cases word with
          | nil => simp at hw3
          | cons d dr => exact ⟨d, dr, rfl⟩
        have hc92 : c = 92 := by
          rw [hdp] at hc
          simpa [body] using hc.symm
        have hdd := hw d (.head _)
        walk
        refine wpAny_truthy_bool ?_
        refine ifF (by rw [ws_no (.inr (.inl hc92))]; decide) ?_
        walk
        refine wpAny_truthy_bool ?_
        refine ifF (by rw [ch_q, show (c == 34) = false from by simp; lia]; decide) ?_
        walk
        refine wpAny_truthy_bool ?_
        refine ifT (by rw [ch_b, show (c == 92) = true from by simp [hc92]]) ?_
        walk
        rename Fr g' L' _ _ => F3
        rename News g' L' _ _ => N3
        rw [if_neg (show ¬ c = 10 by lia), Int.add_zero] at N3
        have hdp0 : tx.cps.toList.drop p = 92 :: (d :: (dr.flatMap (fun d => [92, d]) ++ ([9] ++ post))) := by rw [hdp]; simp [body]
        have hdp1 := drop_tail hdp0
        refine lift (d := 785) (u := 4440) rfl (Nat.le_of_ble_eq_true rfl) rfl (Nat.le_of_ble_eq_true rfl) (rc_call (cl := []) B' F3 X' T' rfl N3 ok hoff hpb hbI hdp1 (by lia) (by have := drop_lt hdp0; rw [str_len]; lia) hl (by lia) ?_)
        intro h3 tk3 tl3 tn3 ts3 F4 N4
        clear F3 N3
        walk
        rename Fr g' L' _ _ => F3
        rename News g' L' _ _ => N3
        refine wpAny_For ?_
        walk
        refine ci_pyIter (N3 _ (.head _)).1 ?_
        refine For_G (fun n₀ m₁ news₁ => Ex6 fun (dn ds : List Nat) (p : Nat) (tl tn tt : Tok) => n₀ = ds.length ∧ d :: dr = dn ++ ds ∧ tx.cps.toList.drop p = ds.flatMap (fun d => [92, d]) ++ ([9] ++ post) ∧ p ≤ tx.length ∧ news₁ = ciLed l I bm tc (l.led w ln tl p tn nn [] np ++ rest) ∧ AllIs m₁ [("self", .ref l.lx), ("token", .str ⟨dn.toArray⟩ tt), ("fiter", .ref I)])
          (n₀ := dr.length) F3 N3 (Ex6.mk ([d]) dr (p + 1 + 1) _ _ _ ⟨rfl, rfl, drop_tail hdp1, by have := drop_lt hdp1; rw [str_len]; lia, rfl, ⟨rfl, rfl, rfl, trivial⟩⟩) ?_
        clear F3 N3
        intro J4 Q4 hJ4 hQ4 n₀ m₁ news₁ h₁ tk₁ F1 N1 hJJ
        refine hJJ _ fun dn ds p tl tn tt hAA => ?_
        refine and_on6 hAA fun hE0 hws hdp hp hE4 hm => ?_
        clear hAA hJJ
        refine goal_G fun GG hGG => ?_
        subst hE0
        subst hE4
        refine hGG ?_
        clear hGG GG
        first | refine Exists.elim (Fr.some F1 _ hm) fun u' F1 => ?_ | refine and_on2 (Fr.some F1 _ hm) fun u' F1 => ?_
        clear hm hdp0 hdp1 hc
        refine lift (d := 785) (u := 4440) rfl (Nat.le_of_ble_eq_true rfl) rfl (Nat.le_of_ble_eq_true rfl) (ci_read (Q := fun _ _ => True) (cl := []) B' F1 X' T' rfl N1 ok hoff hpb hbI hIr hp hl (by lia) ?_ ?_)
        · intro h2 tk2 tl2 tn2 ts c2 hc F2 N2
          clear F1 N1
          dsimp only
          rcases ds with _ | ⟨d2, ds⟩
          · have hc2 : c2 = 9 := by
              rw [hdp] at hc
              simpa using hc.symm
            walk
            refine wpAny_truthy_bool ?_
            refine ifT (by rw [ws_yes (.inr (.inr hc2))]) ?_
            walk
            rename Fr g' L' _ _ => F3
            rename News g' L' _ _ => N3
            rw [if_neg (show ¬ c2 = 10 by lia)] at N3
            rw [List.append_nil] at hws
            subst hws
            have hdp' : tx.cps.toList.drop p = 9 :: post := hdp
            have hpl : p + 1 ≤ tx.length := by have := drop_lt hdp'; rw [str_len]; lia
            dsimp only [WhileStep2]
            walk
            refine hQ4 _ _ ?_
            refine hQ1 _ _ ?_
            walk
            rename News h₀ L _ _ => NE
            rw [if_neg (show ¬ way + 2 = 0 by lia)] at h
            exact h _ _ _ _ _ (p + 1) (drop_tail hdp') hpl (by assumption) (News.drop1 (News.drop1 NE))
          · have hc2 : c2 = 92 := by
              rw [hdp] at hc
              simpa using hc.symm
            have hdc := hw d2 (by rw [hws]; simp)
            walk
            refine wpAny_truthy_bool ?_
            refine ifF (by rw [ws_no (.inr (.inl hc2))]; decide) ?_
            walk
            refine wpAny_truthy_bool ?_
            refine ifT (by rw [ch_b, show (c2 == 92) = true from by simp [hc2]]) ?_
            walk
            rename Fr g' L' _ _ => F3
            rename News g' L' _ _ => N3
            rw [if_neg (show ¬ c2 = 10 by lia), Int.add_zero] at N3
            have hdp0 : tx.cps.toList.drop p = 92 :: (d2 :: (ds.flatMap (fun d => [92, d]) ++ ([9] ++ post))) := by rw [hdp]; simp
            have hdp1 := drop_tail hdp0
            refine lift (d := 785) (u := 4440) rfl (Nat.le_of_ble_eq_true rfl) rfl (Nat.le_of_ble_eq_true rfl) (rc_call (cl := []) B' F3 X' T' rfl N3 ok hoff hpb hbI hdp1 (by lia) (by have := drop_lt hdp0; rw [str_len]; lia) hl (by lia) ?_)
            intro h3 tk3 tl3 tn3 ts3 F4 N4
            clear F3 N3
            walk
            have hdl : dn.length ≤ 3 := by
              have := congrArg List.length hws
              rw [hw3, List.length_append] at this
              lia
            refine iadd_str (x := ⟨dn.toArray⟩) (y := ⟨#[d2]⟩) ?_ (by rw [sizeLine_eq]; simp [Str.length]; lia)
            intro t' tk'
            rw [show (⟨#[d2]⟩ : Str) = ⟨[d2].toArray⟩ from rfl, app_str]
            walk
            rename Fr g' L' _ _ => F3
            rename News g' L' _ _ => N3
            first | exact ws_next (n' := ds.length) (F3) (N3) (by simp) (hJ4 _ _ _ (Ex6.mk (dn ++ [d2]) ds (p + 1 + 1) _ _ _ ⟨rfl, by rw [hws]; simp, drop_tail hdp1, by have := drop_lt hdp1; rw [str_len]; lia, rfl, ⟨rfl, rfl, rfl, trivial⟩⟩)) | exact ws_cont (n' := ds.length) (F3) (N3) (by simp) (hJ4 _ _ _ (Ex6.mk (dn ++ [d2]) ds (p + 1 + 1) _ _ _ ⟨rfl, by rw [hws]; simp, drop_tail hdp1, by have := drop_lt hdp1; rw [str_len]; lia, rfl, ⟨rfl, rfl, rfl, trivial⟩⟩))
        · intro h2 tk2 tl2 tn2 he
          rw [hdp] at he
          simp at he
  · intro h2 tk2 tl2 tn2 he
    rw [hdp] at he
    cases sp <;> simp [body] at he
    match way, he with
    | 0, he => simp [body] at he
    | 1, he => simp [body] at he
    | way + 2, he => simp [body] at he
end
section
open PyProof.Rows.LCg (NsObj ns_obj)

theorem gettok_end {w : World} {gd : Option (List Code)} {cn : Str} {cs : Scope} {a : Addr} {ccd : Value} {cl : List (Str × Addr)} {outer : List Env} {A₀ : Around} {base h₀ : Heap} {L : Addr} {m : Str → Option Value} {rest : List (Addr × Obj)} {s : Shared} {Q E : Value → Shared → Prop} {p : Program} {loose : List Str} {mean : ExcName → Option Value} {mg mb : Str → Option Value} {l : Lex} {tx : Str} {ln : Int} {tl tn : Tok} {n nn np : Nat} {sp : Bool} 
    (B : Below A₀ base outer h₀) (F : Fr h₀ L s.heap m) (X₀ : (Mine.hd.heap_1 w.params).In h₀) (T : Top p loose mean mg mb h₀) (hk : cs.kind = .function) (N : News h₀ L s.heap (l.led w ln tl n tn nn [] np ++ rest)) (ok : l.Ok w tx) (hoff : ∀ p ∈ rest, p.1 ≠ l.dl ∧ p.1 ≠ l.at0)
    (hn : n ≤ tx.length) (hl : tx.length < 1000) (hln : 0 ≤ ln ∧ ln < 1000) (htx : tx.cps.toList.drop n = (if sp then [32] else []) ++ [])
    (h : ∀ h' tk' tl' tn' ts n', tx.cps.toList.drop n' = [] → n' ≤ tx.length → Fr h₀ L h' m → News h₀ L h' (l.led w ln tl' n' tn' nn [] np ++ rest) → Q (.str "" ts) { s with heap := h', toks := tk' }) :
    wpAny (model PySem.Challenge.rw_pg0112_01.row.prog w) (Ar 780 4300 (envX cn cs L a ccd cl :: outer) gd) (call (.ref 77) [.ref l.lx]) Q E s := by
  revert X₀; k_fill; intro X₀
  refine wpAny_call ?_
  k_dflt ktr_enter
  rename_i g' L' h' FG F' N' B' X' T'
  first | refine Exists.elim (Fr.some F' [("self", .ref l.lx)] ⟨rfl, trivial⟩) fun u F1 => ?_ | refine and_on2 (Fr.some F' [("self", .ref l.lx)] ⟨rfl, trivial⟩) fun u F1 => ?_
  clear F'
  simp only [Lex.led, Lex.es, List.cons_append, List.nil_append] at N'
  walk
  rename_i bm h1 F2 N2 lb
  have z2 := N2 _ (.head _)
  refine iter_new z2.1 ?_
  refine and_on3 (led_new (o := ciObj bm (tk + 1)) F2 N2 rfl) fun F3 N3 ne3 => ?_
  dsimp only
  generalize hok : ciObj bm (tk + 1) = oI at N3 F3 ⊢
  obtain ⟨tc, htc⟩ : ∃ tc, tc = tk + 1 := ⟨_, rfl⟩
  rw [← htc] at hok
  subst hok
  have hbI : bm < h1.objs.size := Heap.lt_size (N2 _ (.head _)).1
  have hrb : ∀ p ∈ rest, p.1 < bm := AllLt.of lb.2.2.2.2.2.2.2.2.2.2
  have hpb : l.pb < bm := lb.1
  clear ne3 N2 F2
  generalize h1.objs.size = I at N3 hbI ⊢
  have hIr : ∀ p ∈ rest, p.1 ≠ I ∧ p.1 ≠ bm := fun p hp => ⟨Nat.ne_of_lt (Nat.lt_trans (hrb p hp) hbI), Nat.ne_of_lt (hrb p hp)⟩
  walk
  rename Fr g' L' _ _ => F4
  rename News g' L' _ _ => N4
  refine wpAny_For ?_
  walk
  refine ci_pyIter (N4 _ (.head _)).1 ?_
  refine For_G (fun n₀ m₁ news₁ => Ex5 fun (sp : Bool) (p : Nat) (tl tn tt : Tok) => n₀ = (if sp then 1 else 0) ∧ tx.cps.toList.drop p = (if sp then [32] else []) ++ [] ∧ p ≤ tx.length ∧ news₁ = ciLed l I bm tc (l.led w ln tl p tn nn [] np ++ rest) ∧ AllIs m₁ [("self", .ref l.lx), ("token", .str "" tt), ("fiter", .ref I)])
    (n₀ := if sp then 1 else 0) F4 N4 (Ex5.mk sp n tl tn _ ⟨rfl, htx, hn, rfl, ⟨rfl, rfl, rfl, trivial⟩⟩) ?_
  clear F4 N4
  intro J1 Q1 hJ1 hQ1 n₀ m₁ news₁ h₁ tk₁ F1 N1 hJJ
  refine hJJ _ fun sp p tl tn tt hAA => ?_
  refine and_on5 hAA fun hE0 hdp hp hE3 hm => ?_
  clear hAA hJJ
  refine goal_G fun GG hGG => ?_
  subst hE0
  subst hE3
  refine hGG ?_
  clear hGG GG
  first | refine Exists.elim (Fr.some F1 _ hm) fun u' F1 => ?_ | refine and_on2 (Fr.some F1 _ hm) fun u' F1 => ?_
  clear hm htx hn
  refine lift (d := 785) (u := 4440) rfl (Nat.le_of_ble_eq_true rfl) rfl (Nat.le_of_ble_eq_true rfl) (ci_read (Q := fun _ _ => True) (cl := []) B' F1 X' T' rfl N1 ok hoff hpb hbI hIr hp hl (by omega) ?_ ?_)
  · intro h2 tk2 tl2 tn2 ts c hc F2 N2
    clear F1 N1
    dsimp only
    cases sp with
    | true =>
      have hc32 : c = 32 := by
        rw [hdp] at hc
        simpa using hc.symm
      walk
      refine wpAny_truthy_bool ?_
      refine ifT (by rw [ws_yes (.inl hc32)]) ?_
      walk
      rename Fr g' L' _ _ => F3
      rename News g' L' _ _ => N3
      rw [if_neg (show ¬ c = 10 by omega), Int.add_zero] at N3
      have hdp' : tx.cps.toList.drop p = 32 :: [] := hdp
      first | refine ws_next (n' := 0) (F3) (N3) (by decide) (hJ1 _ _ _ (Ex5.mk false (p + 1) tl2 tn2 tt ⟨rfl, drop_tail hdp', ?_, rfl, ⟨rfl, rfl, rfl, trivial⟩⟩)) | refine ws_cont (n' := 0) (F3) (N3) (by decide) (hJ1 _ _ _ (Ex5.mk false (p + 1) tl2 tn2 tt ⟨rfl, drop_tail hdp', ?_, rfl, ⟨rfl, rfl, rfl, trivial⟩⟩))
      have := drop_lt hdp'
      rw [str_len]; omega
    | false =>
      rw [hdp] at hc
      simp at hc
  · intro h2 tk2 tl2 tn2 he F2 N2
    clear F1 N1
    dsimp only
    walk
    refine hQ1 _ _ ?_
    walk
    rename News h₀ L _ _ => NE
    exact h _ _ _ _ _ _ he hp (by assumption) NE
end
section
open PyProof.Rows.LCg (NsObj ns_obj)
section
variable {prog : Program} {w : World} {A : Around} {E : Value → Shared → Prop} {s : Shared} {h₀ : Heap} {L : Addr} {m : Str → Option Value} {env : Env} {rest : List (Addr × Obj)}
theorem lc_src_dict {e : PySem.Expr} {scope : Scope} {cl : List (Str × Addr)} {Fin : Shared → Addr → List Value → Nat → List (Addr × Obj) → Prop} {d : Addr} {o : Obj} {kvs : List (Int × Value)} {news : List (Addr × Obj)} {s₁ : Shared}
    (F : Fr h₀ L s₁.heap m) (N : News h₀ L s₁.heap news) (hp : (d, o) ∈ news) (hd : Obj.IsDictOf (intKind prog w) o kvs) (lo : (d == sysModules) = false)
    (body : ∀ I oI ep D C oC h tk (hh : Heap), Fr h₀ L h m → News h₀ L h ((C, oC) :: (D, listOf #[] 0) :: (I, oI) :: news) → KdkIter oI d 0 kvs.length ep → KdkAt (intKind prog w) o kvs ep → NsObj oC (fun _ => none) → C ≠ D → C ≠ I → D ≠ I → (∀ p ∈ news, p.1 ≠ C ∧ p.1 ≠ D) → (∀ p ∈ news, p.1 ≠ I) →
      codeAny (model prog w) A (.compLoop e 0 (.ref I) (.ref D) (compEnvC scope cl C env)) (LcDone h₀ L m C D { s₁ with heap := hh } (Fin { s₁ with heap := hh } D)) { s₁ with heap := h, toks := tk }) :
    wpAny (model prog w) A (pyIter (.ref d)) (LcSrc prog w A h₀ L m env e scope cl Fin) E s₁ := by
  obtain ⟨ep, ha⟩ := KdkAt.of hd
  refine wpAny_pyIter_dict lo (ha.dictAt (N _ hp).1) ?_
  obtain ⟨F2, N2, ne2⟩ := led_new (o := { cls := .type "dict_keyiterator", data := .fields #[.ref d, .int 0 0, .int kvs.length 0, .int ep 0] }) F N rfl
  have hit : KdkIter ({ cls := .type "dict_keyiterator", data := .fields #[.ref d, .int 0 0, .int kvs.length 0, .int ep 0] } : Obj) d 0 kvs.length ep := ⟨rfl, rfl⟩
  refine ⟨_, _, news, rfl, F2, N2, fun s' Q' E' hg hq => wpAny_pyIter_keyiter (hit.at hg) hq, fun D C oC h tk F' N' n1 n2 n3 n4 n5 => ?_⟩
  exact body _ _ ep D C oC h tk _ F' N' hit ha n1 n2 n3 n4 n5 ne2

theorem next_dict {I d : Addr} {o oI : Obj} {i ep : Nat} {kvs : List (Int × Value)} {k : Int} {v : Value} {Q : Option Value → Shared → Prop} (F : Fr h₀ L s.heap m) (N : News h₀ L s.heap ((I, oI) :: rest)) (hne : ∀ p ∈ rest, p.1 ≠ I) (hit : KdkIter oI d i kvs.length ep)
    (hp : (d, o) ∈ rest) (ha : KdkAt (intKind prog w) o kvs ep) (hx : kvs[i]? = some (k, v))
    (h : ∀ h' o' t, KdkIter o' d (i + 1) kvs.length ep → Fr h₀ L h' m → News h₀ L h' ((I, o') :: rest) → Q (some (.int k t)) { s with heap := h' }) :
    wpAny (model prog w) A (pyNext (.ref I)) Q E s := by
  have z := (N _ (.head _)).1
  refine wpAny_pyNext_dict_item (hit.at z) (ha.dictAt (N _ (.tail _ hp)).1) hx fun key h' hk ⟨o', hg, hc, hd⟩ hs => ?_
  have t := led_turn F N hne hs hg
  obtain ⟨tk, rfl⟩ := Value.isInt_shape hk
  exact h h' o' tk ⟨hc, hd⟩ t.1 t.2
theorem next_dict_end {I d : Addr} {o oI : Obj} {i ep : Nat} {kvs : List (Int × Value)} {Q : Option Value → Shared → Prop} (hh : A.handled = none) (F : Fr h₀ L s.heap m) (N : News h₀ L s.heap ((I, oI) :: rest)) (hne : ∀ p ∈ rest, p.1 ≠ I) (hit : KdkIter oI d i kvs.length ep)
    (hp : (d, o) ∈ rest) (ha : KdkAt (intKind prog w) o kvs ep) (hx : kvs.length ≤ i)
    (h : ∀ h', Fr h₀ L h' m → News h₀ L h' rest → Q none { s with heap := h' }) :
    wpAny (model prog w) A (pyNext (.ref I)) Q E s := by
  have z := (N _ (.head _)).1
  refine wpAny_pyNext_dict_end hh (hit.at z) (ha.dictAt (N _ (.tail _ hp)).1) (List.getElem?_eq_none hx) fun h' hs => ?_
  have t := led_lost F N hne hs
  exact h h' t.1 t.2
noncomputable def isTi (o : Obj) (t : Addr) (i : Nat) : Prop := o.cls = .type "tuple_iterator" ∧ o.data = .fields #[.ref t, .int i 0]
theorem tup_is {h : Heap} {t : Addr} {its : Array Value} (x : IsTup h t its) : h.IsTuple t its := x
theorem lc_src_tuple {e : PySem.Expr} {scope : Scope} {cl : List (Str × Addr)} {Fin : Shared → Addr → List Value → Nat → List (Addr × Obj) → Prop} {l : Addr} {vs : List Value} {news : List (Addr × Obj)} {s₁ : Shared}
    (F : Fr h₀ L s₁.heap m) (N : News h₀ L s₁.heap news) (hl : IsTup s₁.heap l vs.toArray)
    (body : ∀ I oI D C oC h tk (hh : Heap), Fr h₀ L h m → News h₀ L h ((C, oC) :: (D, listOf #[] 0) :: (I, oI) :: news) → isTi oI l 0 → NsObj oC (fun _ => none) → C ≠ D → C ≠ I → D ≠ I → (∀ p ∈ news, p.1 ≠ C ∧ p.1 ≠ D) → (∀ p ∈ news, p.1 ≠ I) →
      codeAny (model prog w) A (.compLoop e 0 (.ref I) (.ref D) (compEnvC scope cl C env)) (LcDone h₀ L m C D { s₁ with heap := hh } (Fin { s₁ with heap := hh } D)) { s₁ with heap := h, toks := tk }) :
    wpAny (model prog w) A (pyIter (.ref l)) (LcSrc prog w A h₀ L m env e scope cl Fin) E s₁ := by
  refine wpAny_pyIter_tuple (tup_is hl) ?_
  obtain ⟨F2, N2, ne2⟩ := led_new (o := { cls := .type "tuple_iterator", data := .fields #[.ref l, .int 0 0] }) F N rfl
  refine ⟨_, _, news, rfl, F2, N2, fun s' Q' E' hg hq => wpAny_pyIter_tupleiter (i := 0) ⟨_, hg, rfl, rfl⟩ hq, fun D C oC h tk F' N' n1 n2 n3 n4 n5 => ?_⟩
  exact body _ _ D C oC h tk _ F' N' ⟨rfl, rfl⟩ n1 n2 n3 n4 n5 ne2
theorem next_tuple {I l : Addr} {o : Obj} {i : Nat} {vs : List Value} {Q : Option Value → Shared → Prop} (F : Fr h₀ L s.heap m) (N : News h₀ L s.heap ((I, o) :: rest)) (hne : ∀ p ∈ rest, p.1 ≠ I) (ho : isTi o l i)
    (hl : IsTup s.heap l vs.toArray) (hi : i < vs.length)
    (h : ∀ h' o', isTi o' l (i + 1) → Fr h₀ L h' m → News h₀ L h' ((I, o') :: rest) → Q (some (vs.getD i .none)) { s with heap := h' }) :
    wpAny (model prog w) A (pyNext (.ref I)) Q E s := by
  have z := (N _ (.head _)).1
  have hit : s.heap.IsTupleIter I l i := ⟨_, z, ho⟩
  refine wpAny_pyNext_tuple_item hit (tup_is hl) (x := vs.getD i .none) (by simp [hi]) fun h' ⟨o', hg, hc, hd⟩ hs => ?_
  have t := led_turn F N hne hs hg
  exact h h' o' ⟨hc, hd⟩ t.1 t.2
theorem next_tuple_end {I l : Addr} {o : Obj} {i : Nat} {vs : List Value} {Q : Option Value → Shared → Prop} (hh : A.handled = none) (F : Fr h₀ L s.heap m) (N : News h₀ L s.heap ((I, o) :: rest)) (hne : ∀ p ∈ rest, p.1 ≠ I) (ho : isTi o l i)
    (hl : IsTup s.heap l vs.toArray) (hi : vs.length ≤ i)
    (h : ∀ h', Fr h₀ L h' m → News h₀ L h' rest → Q none { s with heap := h' }) :
    wpAny (model prog w) A (pyNext (.ref I)) Q E s := by
  have z := (N _ (.head _)).1
  have hit : s.heap.IsTupleIter I l i := ⟨_, z, ho⟩
  refine wpAny_pyNext_tuple_end hh hit (tup_is hl) (by simp [hi]) fun h' hs => ?_
  have t := led_lost F N hne hs
  exact h h' t.1 t.2
noncomputable def isSi (o : Obj) (x : Str) (t : Tok) (i : Nat) : Prop := o.cls = .type "str_ascii_iterator" ∧ o.data = .fields #[.str x t, .int i 0]
theorem lc_src_str {e : PySem.Expr} {scope : Scope} {cl : List (Str × Addr)} {Fin : Shared → Addr → List Value → Nat → List (Addr × Obj) → Prop} {x : Str} {t : Tok} {news : List (Addr × Obj)} {s₁ : Shared}
    (F : Fr h₀ L s₁.heap m) (N : News h₀ L s₁.heap news) (ha : x.cps.all (· < 128) = true)
    (body : ∀ I oI D C oC h tk (hh : Heap), Fr h₀ L h m → News h₀ L h ((C, oC) :: (D, listOf #[] 0) :: (I, oI) :: news) → isSi oI x t 0 → NsObj oC (fun _ => none) → C ≠ D → C ≠ I → D ≠ I → (∀ p ∈ news, p.1 ≠ C ∧ p.1 ≠ D) → (∀ p ∈ news, p.1 ≠ I) →
      codeAny (model prog w) A (.compLoop e 0 (.ref I) (.ref D) (compEnvC scope cl C env)) (LcDone h₀ L m C D { s₁ with heap := hh } (Fin { s₁ with heap := hh } D)) { s₁ with heap := h, toks := tk }) :
    wpAny (model prog w) A (pyIter (.str x t)) (LcSrc prog w A h₀ L m env e scope cl Fin) E s₁ := by
  refine wpAny_pyIter_ascii ha ?_
  obtain ⟨F2, N2, ne2⟩ := led_new (o := { cls := .type "str_ascii_iterator", data := .fields #[.str x t, .int 0 0] }) F N rfl
  refine ⟨_, _, news, rfl, F2, N2, fun s' Q' E' hg hq => ?_, fun D C oC h tk F' N' n1 n2 n3 n4 n5 => ?_⟩
  · have hit : s'.heap.IsStrIter s₁.heap.objs.size "str_ascii_iterator" x t 0 := ⟨_, hg, rfl, rfl⟩
    exact wpAny_pyIter_striter_ascii hit hq
  · exact body _ _ D C oC h tk _ F' N' ⟨rfl, rfl⟩ n1 n2 n3 n4 n5 ne2
theorem next_str {I : Addr} {o : Obj} {i c : Nat} {x : Str} {t : Tok} {Q : Option Value → Shared → Prop} (F : Fr h₀ L s.heap m) (N : News h₀ L s.heap ((I, o) :: rest)) (hne : ∀ p ∈ rest, p.1 ≠ I) (ho : isSi o x t i)
    (hi : x.cps[i]? = some c)
    (h : ∀ h' o', isSi o' x t (i + 1) → Fr h₀ L h' m → News h₀ L h' ((I, o') :: rest) → Q (some (.str ⟨#[c]⟩ s.toks)) { s with heap := h', toks := s.toks + 1 }) :
    wpAny (model prog w) A (pyNext (.ref I)) Q E s := by
  have z := (N _ (.head _)).1
  have hit : s.heap.IsStrIter I "str_ascii_iterator" x t i := ⟨_, z, ho⟩
  refine wpAny_pyNext_ascii_item hit hi fun h' ⟨o', hg, hc, hd⟩ hs => ?_
  have t := led_turn F N hne hs hg
  exact h h' o' ⟨hc, hd⟩ t.1 t.2
theorem next_str_end {I : Addr} {o : Obj} {i : Nat} {x : Str} {t : Tok} {Q : Option Value → Shared → Prop} (hh : A.handled = none) (F : Fr h₀ L s.heap m) (N : News h₀ L s.heap ((I, o) :: rest)) (hne : ∀ p ∈ rest, p.1 ≠ I) (ho : isSi o x t i)
    (hi : x.cps[i]? = none)
    (h : ∀ h', Fr h₀ L h' m → News h₀ L h' rest → Q none { s with heap := h' }) :
    wpAny (model prog w) A (pyNext (.ref I)) Q E s := by
  have z := (N _ (.head _)).1
  have hit : s.heap.IsStrIter I "str_ascii_iterator" x t i := ⟨_, z, ho⟩
  refine wpAny_pyNext_ascii_end hh hit hi fun h' hs => ?_
  have t := led_lost F N hne hs
  exact h h' t.1 t.2
end
end
section
open PyProof.Rows.LCg (NsObj ns_obj)

noncomputable abbrev AP := Addr × Key
theorem dig_int : ∀ d, d < 10 → PySem.intText? ⟨#[48 + d]⟩ = some (d : Int) := by
  have : (List.range 10).all (fun d => PySem.intText? ⟨#[48 + d]⟩ == some (d : Int)) = true := by decide +kernel
  exact fun d hd => beq_iff_eq.mp (List.all_eq_true.mp this d (List.mem_range.mpr hd))
theorem dig_str : ∀ d : Nat, d < 10 → (Str.ofString (toString (d : Int))) = ⟨#[48 + d]⟩ := by
  have : (List.range 10).all (fun d : Nat => (Str.ofString (toString (d : Int))).cps == #[48 + d]) = true := by decide +kernel
  intro d hd
  have := beq_iff_eq.mp (List.all_eq_true.mp this d (List.mem_range.mpr hd))
  cases h : Str.ofString (toString (d : Int))
  rw [h] at this
  exact congrArg Str.mk this

/-- the asking, as it goes: the wishes left, the keys held (in the order of the dict), who waits -/
structure St where
  ws : List (List Key)
  held : List Key
  q : List Nat
noncomputable def askStep (s : St) (i : Nat) : St := match s.ws.getD i [] with
  | [] => s
  | k :: r => match s.held.find? (fun h => h.2.2 == k.2.2) with
    | none => ⟨s.ws.set i r, s.held ++ [k], s.q⟩
    | some h => if keyLt k h then ⟨s.ws.set i r, s.held.map (fun x => if x.2.2 = k.2.2 then k else x), s.q ++ [h.2.1.toNat]⟩ else ⟨s.ws.set i r, s.held, s.q ++ [i]⟩
noncomputable def askRun : Nat → St → St
  | 0, s => s
  | n + 1, s => match s.q with
    | [] => s
    | i :: q => askRun n (askStep ⟨s.ws, s.held, q⟩ i)
noncomputable def St.size (s : St) : Nat := (s.ws.map List.length).sum + s.q.length

noncomputable def digS (i : Nat) : Str := ⟨#[48 + i]⟩
noncomputable def curS : Option Nat → Str
  | none => ""
  | some i => digS i
theorem News.swapApp {h₀ h : Heap} {L : Addr} {p q r : List (Addr × Obj)} (N : News h₀ L h (p ++ (q ++ r))) : News h₀ L h (q ++ (p ++ r)) := News.sub N (fun x hx => by
  revert x
  repeat' (first | with_reducible exact sub_nil | with_reducible exact sub_self | with_reducible exact List.mem_cons_self | with_reducible refine sub_cons ?_ ?_ | with_reducible refine sub_app ?_ ?_ | with_reducible refine List.mem_cons_of_mem _ ?_ | (with_reducible refine List.mem_append_left _ ?_; (repeat (first | with_reducible exact List.mem_cons_self | with_reducible refine List.mem_cons_of_mem _ ?_)); done) | with_reducible refine List.mem_append_right _ ?_ | with_reducible refine sub_tl ?_ | with_reducible exact sub_apl sub_self | with_reducible refine sub_apr ?_))
theorem News.askIn {h₀ h : Heap} {L : Addr} {a b c : Addr × Obj} {ws r : List (Addr × Obj)} (N : News h₀ L h (a :: b :: (ws ++ (c :: r)))) : News h₀ L h (c :: b :: a :: (ws ++ r)) := News.sub N (fun p hp => by
  revert p
  repeat' (first | with_reducible exact sub_nil | with_reducible exact sub_self | with_reducible exact List.mem_cons_self | with_reducible refine sub_cons ?_ ?_ | with_reducible refine sub_app ?_ ?_ | with_reducible refine List.mem_cons_of_mem _ ?_ | (with_reducible refine List.mem_append_left _ ?_; (repeat (first | with_reducible exact List.mem_cons_self | with_reducible refine List.mem_cons_of_mem _ ?_)); done) | with_reducible refine List.mem_append_right _ ?_ | with_reducible refine sub_tl ?_ | with_reducible exact sub_apl sub_self | with_reducible refine sub_apr ?_))
theorem Lex.any {w : World} {l : Lex} {ln ln' : Int} {tl tn tl' tn' : Tok} {n nn np n' nn' np' : Nat} {pbs pbs' : List Value} {P : Addr → Prop} (h : ∀ p ∈ l.led w ln tl n tn nn pbs np, P p.1) : ∀ p ∈ l.led w ln' tl' n' tn' nn' pbs' np', P p.1 := fun p hp => by
  have h1 : p.1 ∈ (l.led w ln' tl' n' tn' nn' pbs' np').map (·.1) := List.mem_map_of_mem hp
  have h2 : p.1 ∈ (l.led w ln tl n tn nn pbs np).map (·.1) := h1
  refine goal_G fun GG hGG => ?_
  obtain ⟨q, hq, e⟩ := List.mem_map.mp h2
  refine hGG ?_
  clear hGG GG
  rw [← e]; exact h q hq
theorem strs_snoc {x : Str} {t : Tok} : ∀ {vs : List Value} {ys : List Str}, StrsAre vs ys → StrsAre (vs ++ [.str x t]) (ys ++ [x])
  | _, _, .nil => .cons _ _ .nil
  | _, _, .cons y t' h => .cons y t' (strs_snoc h)
theorem strs_len : ∀ {vs : List Value} {ys : List Str}, StrsAre vs ys → vs.length = ys.length
  | _, _, .nil => rfl
  | _, _, .cons y t' h => by rw [List.length_cons, List.length_cons, strs_len h]
noncomputable def KP (k : Key) : Prop := ∃ i : Nat, i < 4 ∧ k.2.1 = (i : Int)
theorem sort3_mem {a b c k : Key} (h : k ∈ sort3 a b c) : k = a ∨ k = b ∨ k = c := by
  unfold sort3 at h
  refine goal_G fun GG hGG => ?_
  obtain ⟨i, hi, rfl⟩ := List.mem_map.mp h
  refine hGG ?_
  clear hGG GG
  have h3 : i < 3 := of_decide_eq_true (List.all_eq_true.mp (perm3_lt _ _ _) i hi)
  have : i = 0 ∨ i = 1 ∨ i = 2 := by lia
  rcases this with rfl | rfl | rfl <;> simp
theorem srt_mem {l : List Key} (hl : l.length = 3) {k : Key} (h : k ∈ srt l) : k ∈ l := by
  refine goal_G fun GG hGG => ?_
  obtain ⟨a, b, c, rfl⟩ := len3 hl
  refine hGG ?_
  clear hGG GG
  rcases sort3_mem h with rfl | rfl | rfl <;> simp
theorem sort3_len (a b c : Key) : (sort3 a b c).length = 3 := by unfold sort3; rw [List.length_map]; exact perm3_len _ _ _
theorem srt_len {l : List Key} (hl : l.length = 3) : (srt l).length = 3 := by
  refine goal_G fun GG hGG => ?_
  obtain ⟨a, b, c, rfl⟩ := len3 hl
  refine hGG ?_
  clear hGG GG
  exact sort3_len a b c
theorem digS_ne (i : Nat) : (curS (some i) != ("" : Str)) = true := by
  show (!(digS i == ("" : Str))) = true
  cases h : (digS i == ("" : Str)) with
  | false => rfl
  | true =>
    have e1 := congrArg Str.cps (eq_of_beq h)
    have e2 : #[48 + i] = #[] := e1
    exact absurd (congrArg Array.size e2) (by simp)
theorem split_at {α : Type} : ∀ {l : List α} {i : Nat}, i < l.length → ∃ pre x post, l = pre ++ x :: post ∧ pre.length = i
  | [], _, h => absurd h (Nat.not_lt_zero _)
  | x :: l, 0, _ => ⟨[], x, l, rfl, rfl⟩
  | y :: l, i + 1, h => by
    refine goal_G fun GG hGG => ?_
    obtain ⟨pre, x, post, e, hl⟩ := split_at (l := l) (i := i) (Nat.lt_of_succ_lt_succ h)
    refine hGG ?_
    clear hGG GG
    exact ⟨y :: pre, x, post, by rw [e]; rfl, by rw [List.length_cons, hl]⟩
structure Wrap (p : Prop) : Prop where
  h : p
noncomputable def wobj (x : Addr × List AP × Nat) : Addr × Obj := (x.1, listOf (pvs x.2.1).toArray x.2.2)
theorem all_wobj {P : Addr → Prop} {ys : List (Addr × List AP × Nat)} (h : ∀ y ∈ ys, P y.1) : ∀ p ∈ ys.map wobj, P p.1 := fun p hp => by
  obtain ⟨y, hy, rfl⟩ := List.mem_map.mp hp
  exact h y hy
theorem mem_mid {α β : Type} (f : α → β) {pre post : List α} {x : α} {p : β} : p ∈ (pre ++ x :: post).map f ↔ p = f x ∨ p ∈ (pre ++ post).map f := by
  simp only [List.map_append, List.map_cons, List.mem_append, List.mem_cons]
  constructor
  · rintro (h | h | h)
    · exact .inr (.inl h)
    · exact .inl h
    · exact .inr (.inr h)
  · rintro (h | h | h)
    · exact .inr (.inl h)
    · exact .inl h
    · exact .inr (.inr h)
theorem News.toX {h₀ h : Heap} {L : Addr} {e c d o : Addr × Obj} {x : Addr × List AP × Nat} {pre post : List (Addr × List AP × Nat)} {ld r : List (Addr × Obj)} (N : News h₀ L h (e :: (ld ++ (c :: d :: o :: ((pre ++ x :: post).map wobj ++ r))))) : News h₀ L h (o :: wobj x :: (ld ++ (c :: d :: ((pre ++ post).map wobj ++ r)))) := News.sub N (fun p hp => by
  simp only [List.mem_cons, List.mem_append (t := r), List.mem_append (s := ld), mem_mid] at hp ⊢
  generalize (p ∈ (pre ++ post).map wobj) = Z at hp ⊢
  grind)
theorem News.ofX {h₀ h : Heap} {L : Addr} {c d o : Addr × Obj} {x : Addr × List AP × Nat} {pre post : List (Addr × List AP × Nat)} {ld r : List (Addr × Obj)} (N : News h₀ L h (o :: wobj x :: (ld ++ (c :: d :: ((pre ++ post).map wobj ++ r))))) : News h₀ L h (ld ++ (c :: d :: o :: ((pre ++ x :: post).map wobj ++ r))) := News.sub N (fun p hp => by
  simp only [List.mem_cons, List.mem_append (t := r), List.mem_append (s := ld), mem_mid] at hp ⊢
  generalize (p ∈ (pre ++ post).map wobj) = Z at hp ⊢
  grind)
noncomputable abbrev hkv (hd : List AP) : List (Int × Value) := hd.map fun q => (q.2.2.2, Value.ref q.1)
theorem val_at (hd : List AP) (j : Int) : valueAt (hkv hd) j = (hd.find? (fun q => decide (q.2.2.2 = j))).map (fun q => Value.ref q.1) := by
  unfold valueAt
  rw [List.find?_map, Option.map_map]
  rfl
theorem find_keys (hd : List AP) (j : Int) : (hd.map (·.2)).find? (fun h => h.2.2 == j) = (hd.find? (fun q => decide (q.2.2.2 = j))).map (·.2) := by
  rw [List.find?_map]
  congr 1
theorem stored_new {hd : List AP} {j : Int} {v : Value} (h : hd.find? (fun q => decide (q.2.2.2 = j)) = none) : stored (hkv hd) j v = hkv hd ++ [(j, v)] := by
  unfold stored
  rw [if_neg]
  intro e
  refine goal_G fun GG hGG => ?_
  obtain ⟨kv, hm, he⟩ := List.any_eq_true.mp e
  refine hGG ?_
  clear hGG GG
  refine goal_G fun GG hGG => ?_
  obtain ⟨q, hq, rfl⟩ := List.mem_map.mp hm
  refine hGG ?_
  clear hGG GG
  have := List.find?_eq_none.mp h q hq
  exact this he
theorem stored_old {hd : List AP} {kq hq : AP} (h : hd.find? (fun q => decide (q.2.2.2 = kq.2.2.2)) = some hq) : stored (hkv hd) kq.2.2.2 (.ref kq.1) = hkv (hd.map (fun x => if x.2.2.2 = kq.2.2.2 then kq else x)) := by
  unfold stored
  rw [if_pos]
  · show (hd.map _).map _ = (hd.map _).map _
    rw [List.map_map, List.map_map]
    refine List.map_congr_left fun x hx => ?_
    show (if x.2.2.2 = kq.2.2.2 then (x.2.2.2, Value.ref kq.1) else (x.2.2.2, Value.ref x.1)) = _
    by_cases e : x.2.2.2 = kq.2.2.2
    · simp [e]
    · simp [e]
  · refine List.any_eq_true.mpr ⟨(hq.2.2.2, .ref hq.1), List.mem_map_of_mem (f := fun q : AP => (q.2.2.2, Value.ref q.1)) (List.mem_of_find?_eq_some h), ?_⟩
    exact List.find?_some (p := fun q : AP => decide (q.2.2.2 = kq.2.2.2)) h
theorem set_mid {α β : Type} (f : α → β) {pre post : List α} {x x' : α} : ((pre ++ x :: post).map f).set pre.length (f x') = (pre ++ x' :: post).map f := by
  simp [List.set_append]
theorem askRun_nil : ∀ (f : Nat) (w : List (List Key)) (h : List Key), askRun f ⟨w, h, []⟩ = ⟨w, h, []⟩
  | 0, _, _ => rfl
  | _ + 1, _, _ => rfl
theorem val_nodup : ∀ {kvs : List (Int × Value)} {i : Nat} {k : Int} {v : Value}, (kvs.map (·.1)).Nodup → kvs[i]? = some (k, v) → valueAt kvs k = some v
  | [], i, k, v, _, h => by simp at h
  | (a, b) :: r, 0, k, v, _, h => by
    simp at h
    refine goal_G fun GG hGG => ?_
    obtain ⟨rfl, rfl⟩ := h
    refine hGG ?_
    clear hGG GG
    simp [valueAt]
  | (a, b) :: r, i + 1, k, v, hn, h => by
    have h' : r[i]? = some (k, v) := by simpa using h
    rw [List.map_cons, List.nodup_cons] at hn
    have hm : k ∈ r.map (·.1) := List.mem_map.mpr ⟨(k, v), List.mem_of_getElem? h', rfl⟩
    have hne : ¬ a = k := fun e => hn.1 (by rw [e]; exact hm)
    have ih := val_nodup hn.2 h'
    unfold valueAt at ih ⊢
    rw [List.find?_cons, show decide ((a, b).1 = k) = false from by simp [hne]]
    exact ih
/-- cases that leave the goal and the premises as they are -/
theorem list_on {α : Type} {G : Prop} (l : List α) (h0 : l = [] → G) (h1 : ∀ a r, l = a :: r → G) : G := by
  cases l with
  | nil => exact h0 rfl
  | cons a r => exact h1 a r rfl
theorem nat_on {G : Prop} (n : Nat) (h0 : n = 0 → G) (h1 : ∀ k, n = k + 1 → G) : G := by
  cases n with
  | zero => exact h0 rfl
  | succ k => exact h1 k rfl
theorem opt_on {α : Type} {G : Prop} (o : Option α) (h0 : o = none → G) (h1 : ∀ a, o = some a → G) : G := by
  cases o with
  | none => exact h0 rfl
  | some a => exact h1 a rfl
theorem strs_on {vs : List Value} {y : Str} {ys : List Str} {G : Prop} (h : StrsAre vs (y :: ys)) (k : ∀ t vs', vs = .str y t :: vs' → StrsAre vs' ys → G) : G := by
  cases h with
  | cons y t hr => exact k t _ rfl hr
theorem strs_nil {vs : List Value} (h : StrsAre vs []) : vs = [] := by cases h; rfl
theorem split_on {α β γ : Type} {l : List (α × β × γ)} {i : Nat} {G : Prop} (h : i < l.length) (k : ∀ pre a b c post, l = pre ++ (a, b, c) :: post → pre.length = i → G) : G := by
  obtain ⟨pre, ⟨a, b, c⟩, post, e, hl⟩ := split_at h
  exact k pre a b c post e hl
theorem len3_on {α : Type} {l : List α} {G : Prop} (h : l.length = 3) (k : ∀ a b c, l = [a, b, c] → G) : G := by
  obtain ⟨a, b, c, e⟩ := len3 h
  exact k a b c e
theorem PairIn.on {r : List (Addr × Obj)} {q : Addr × Key} {G : Prop} (h : PairIn r q) (k : ∀ d n sl u1 u2 u3, (q.1, (⟨.type "tuple", d, .seq #[.int q.2.1 u1, .int q.2.2.1 u2, .int q.2.2.2 u3] n, sl⟩ : Obj)) ∈ r → G) : G := by
  obtain ⟨o, hm, d, n, sl, u1, u2, u3, rfl⟩ := h
  exact k d n sl u1 u2 u3 hm
theorem item_genV {prog : Program} {w : World} {A : Around} {E : Value → Shared → Prop} {s : Shared} {value slice : PySem.Expr} {l : Addr} {vs : List Value} {k : Int} {u : Tok} {v : Value} {Q : Value → Shared → Prop}
    (hl : s.heap.IsList l vs.toArray) (h0 : 0 ≤ k) (hhi : k < vs.length) (hsz : vs.length < 1000) (hv : vs.getD k.toNat .none = v) (h : Q v s)
    (hs : subscripted slice false (.ref l) (.int k u) = operate [.ref l, .int k u] (getItem (.ref l) (.int k u)) := by with_unfolding_all rfl) :
    wpAny (model prog w) A (subscriptTail value slice (.ref l) (.int k u)) Q E s := item_gen hl h0 hhi hsz (hv ▸ h) hs
/-- a cut behind which the state is the old one but for heap and toks -/
theorem wp_cutN {M : Model} {A : Around} {t : Sem Flow} {Q : Flow → Shared → Prop} {E : Value → Shared → Prop} {s : Shared} (P : Heap → Nat → Prop)
    (h1 : ∀ W : Flow → Shared → Prop, (∀ h tk, P h tk → W .next { s with heap := h, toks := tk }) → wpAny M A t W E s) (h2 : ∀ h tk, P h tk → Q .next { s with heap := h, toks := tk }) : wpAny M A t Q E s :=
  wpAny_mono (h1 (fun fl s' => fl = .next ∧ ∃ h tk, s' = { s with heap := h, toks := tk } ∧ P h tk) fun h tk hp => ⟨rfl, h, tk, rfl, hp⟩) (fun _ _ hx => by
    obtain ⟨rfl, h, tk, rfl, hp⟩ := hx
    exact h2 h tk hp) (fun _ _ e => e)
theorem News.gen2 {h₀ h : Heap} {L : Addr} {a b : Addr × Obj} {r : List (Addr × Obj)} {G : Prop} (N : News h₀ L h ([a, b] ++ r)) (k : ∀ X, r = X → News h₀ L h (a :: b :: X) → G) : G := k r rfl N
theorem News.drop3 {h₀ h : Heap} {L : Addr} {a b c : Addr × Obj} {r : List (Addr × Obj)} (N : News h₀ L h (a :: b :: c :: r)) : News h₀ L h (a :: b :: r) := News.sub N fun p hp => (List.mem_cons.mp hp).elim (fun e => e ▸ .head _) fun hp => (List.mem_cons.mp hp).elim (fun e => e ▸ .tail _ (.head _)) fun hp => .tail _ (.tail _ (.tail _ hp))
/-- a walk beside a lexer: the two entries that it needs, the rest a letter -/
theorem Lex.open {w : World} {l : Lex} {ln : Int} {tl tn : Tok} {n nn np : Nat} {pbs : List Value} {h₀ h : Heap} {L : Addr} {R : List (Addr × Obj)} {G : Prop} (N : News h₀ L h (l.led w ln tl n tn nn pbs np ++ R))
    (k : ∀ X, (∀ {h' : Heap}, News h₀ L h' ((l.lx, instObj 87 l.dl) :: (l.dl, dictOf [{ hash := PyData.keyHash w.params "lineno", key := .str "lineno" l.k1, val := .int ln tl }, { hash := PyData.keyHash w.params "instream", key := .str "instream" l.k2, val := .ref l.fS }, { hash := PyData.keyHash w.params "whitespace", key := .str "whitespace" l.k3, val := .str "\n\t\x0d " l.tw }, { hash := PyData.keyHash w.params "pushback", key := .str "pushback" l.k4, val := .ref l.pb }] 4) :: X) → News h₀ L h' (l.led w ln tl n tn nn pbs np ++ R)) → News h₀ L h ((l.lx, instObj 87 l.dl) :: (l.dl, dictOf [{ hash := PyData.keyHash w.params "lineno", key := .str "lineno" l.k1, val := .int ln tl }, { hash := PyData.keyHash w.params "instream", key := .str "instream" l.k2, val := .ref l.fS }, { hash := PyData.keyHash w.params "whitespace", key := .str "whitespace" l.k3, val := .str "\n\t\x0d " l.tw }, { hash := PyData.keyHash w.params "pushback", key := .str "pushback" l.k4, val := .ref l.pb }] 4) :: X) → G) : G :=
  k _ (fun N => News.drop1 (News.drop1 N)) (News.two N (.tail _ (.head _)) (.tail _ (.tail _ (.head _))))
theorem Off.dup {a : Addr} {x : Addr × Obj} {r : List (Addr × Obj)} (h : Off a r) (hx : x ∈ r) : Off a (x :: r) := Off.cons (h x hx) h
theorem Lex.open2 {w : World} {l : Lex} {ln : Int} {tl tn : Tok} {n nn np : Nat} {pbs : List Value} {h₀ h : Heap} {L : Addr} {a b c : Addr × Obj} {R : List (Addr × Obj)} {G : Prop} (N : News h₀ L h (a :: b :: (l.led w ln tl n tn nn pbs np ++ R))) (hc : c ∈ R)
    (k : ∀ X, (∀ p ∈ R, p ∈ X) → (∀ {q : Addr}, Off q (l.led w ln tl n tn nn pbs np ++ R) → Off q (c :: (l.lx, instObj 87 l.dl) :: (l.dl, dictOf [{ hash := PyData.keyHash w.params "lineno", key := .str "lineno" l.k1, val := .int ln tl }, { hash := PyData.keyHash w.params "instream", key := .str "instream" l.k2, val := .ref l.fS }, { hash := PyData.keyHash w.params "whitespace", key := .str "whitespace" l.k3, val := .str "\n\t\x0d " l.tw }, { hash := PyData.keyHash w.params "pushback", key := .str "pushback" l.k4, val := .ref l.pb }] 4) :: X)) →
      (∀ {h' : Heap} {a' b' : Addr × Obj}, News h₀ L h' (a' :: b' :: c :: (l.lx, instObj 87 l.dl) :: (l.dl, dictOf [{ hash := PyData.keyHash w.params "lineno", key := .str "lineno" l.k1, val := .int ln tl }, { hash := PyData.keyHash w.params "instream", key := .str "instream" l.k2, val := .ref l.fS }, { hash := PyData.keyHash w.params "whitespace", key := .str "whitespace" l.k3, val := .str "\n\t\x0d " l.tw }, { hash := PyData.keyHash w.params "pushback", key := .str "pushback" l.k4, val := .ref l.pb }] 4) :: X) → News h₀ L h' (l.led w ln tl n tn nn pbs np ++ (a' :: b' :: R))) →
      News h₀ L h (a :: b :: c :: (l.lx, instObj 87 l.dl) :: (l.dl, dictOf [{ hash := PyData.keyHash w.params "lineno", key := .str "lineno" l.k1, val := .int ln tl }, { hash := PyData.keyHash w.params "instream", key := .str "instream" l.k2, val := .ref l.fS }, { hash := PyData.keyHash w.params "whitespace", key := .str "whitespace" l.k3, val := .str "\n\t\x0d " l.tw }, { hash := PyData.keyHash w.params "pushback", key := .str "pushback" l.k4, val := .ref l.pb }] 4) :: X) → G) : G :=
  k (l.led w ln tl n tn nn pbs np ++ R) (fun _ hp => List.mem_append_right _ hp)
    (fun o => Off.dup (Off.dup (Off.dup o (.tail _ (.tail _ (.head _)))) (.tail _ (.tail _ (.head _)))) (.tail _ (.tail _ (List.mem_append_right _ hc))))
    (fun {h' a' b'} N => News.swapApp (p := [a', b']) (News.sub N fun p hp => (List.mem_cons.mp hp).elim (fun e => e ▸ .head _) fun hp => (List.mem_cons.mp hp).elim (fun e => e ▸ .tail _ (.head _)) fun hp => .tail _ (.tail _ (.tail _ (.tail _ (.tail _ hp))))))
    (News.sub N fun p hp => by
      rcases List.mem_cons.mp hp with rfl | hp
      · exact .head _
      rcases List.mem_cons.mp hp with rfl | hp
      · exact .tail _ (.head _)
      refine .tail _ (.tail _ ?_)
      rcases List.mem_cons.mp hp with rfl | hp
      · exact List.mem_append_right _ hc
      rcases List.mem_cons.mp hp with rfl | hp
      · exact .tail _ (.head _)
      rcases List.mem_cons.mp hp with rfl | hp
      · exact .tail _ (.tail _ (.head _))
      exact hp)
theorem asking_spec {w : World} {gd : Option (List Code)} {cn : Str} {cs : Scope} {a : Addr} {ccd : Value} {cl : List (Str × Addr)} {outer : List Env} {A₀ : Around} {base h₀ : Heap} {L : Addr} {m : Str → Option Value} {rest : List (Addr × Obj)} {s : Shared} {Q E : Value → Shared → Prop} {p : Program} {loose : List Str} {mean : ExcName → Option Value} {mg mb : Str → Option Value} {ka : Addr} {adr : Key → Addr} {rows : List (Addr × List Key)} {l : Lex} {tx : Str} {ln : Int} {tl tn : Tok} {n nn np : Nat} {ha hb hc : Key}
    (B : Below A₀ base outer h₀) (F : Fr h₀ L s.heap m) (X₀ : (Mine.hd.heap_1 w.params).In h₀) (T : Top p loose mean mg mb h₀) (hk : cs.kind = .function) (N : News h₀ L s.heap (l.led w ln tl n tn nn [] np ++ rest)) (ok : l.Ok w tx) (hoff : ∀ p ∈ rest, p.1 ≠ l.dl ∧ p.1 ≠ l.at0 ∧ p.1 ≠ l.pb)
    (hn : n ≤ tx.length) (hl : tx.length < 1000) (hln : 0 ≤ ln ∧ ln < 1000) (htx : tx.cps.toList.drop n = [])
    (hka : ∃ n, (ka, listOf (rows.map fun r => Value.ref r.1).toArray n) ∈ rest) (hrows : ∀ r ∈ rows, ∃ n, (r.1, listOf (kvs adr r.2).toArray n) ∈ rest)
    (hK : ∀ r ∈ rows, ∀ k ∈ r.2, KeyIn rest adr k) (h4 : rows.length = 4) (h3 : ∀ r ∈ rows, r.2.length = 3)
    (hI : ∀ i, i < 4 → ∀ j, j < 3 → ((rows.getD i (0, [])).2.getD j (0, 0, 0)).2.1 = (i : Int)) (hJ : ∀ i, i < 4 → ∀ j, j < 3 → ((rows.getD i (0, [])).2.getD j (0, 0, 0)).2.2 = (j : Int))
    (hfin : (askRun 16 ⟨rows.map fun r => srt r.2, [], [0, 1, 2, 3]⟩).held = [ha, hb, hc]) (hab : ha ≠ hb) (hac : ha ≠ hc) (hbc : hb ≠ hc)
    (h : ∀ h' tk' P ps n' np' tl' tn' nf', Fr h₀ L h' m → News h₀ L h' ((P, listOf (pvs ps).toArray n') :: (l.led w ln tl' nf' tn' nn [] np' ++ rest)) → (∀ p ∈ l.led w ln tl' nf' tn' nn [] np' ++ rest, p.1 ≠ P) → (∀ q ∈ ps, PairIn rest q) → ps.map (·.2) = sort3 ha hb hc → Q (.ref P) { s with heap := h', toks := tk' }) :
    wpAny (model PySem.Challenge.rw_pg0112_01.row.prog w) (Ar 700 4000 (envX cn cs L a ccd cl :: outer) gd) (call (.ref 125) [.ref l.lx, .ref ka]) Q E s := by
  revert X₀; k_fill; intro X₀
  refine wpAny_call ?_
  refine code_defC B F X₀ N T rfl rfl hk (by k_is) (by k_is) (by k_room) (BindsTo.of_eq rfl) rfl (by decide +kernel) ?_ rfl rfl rfl
  intro g' L' h' tk' cells' FG F' N' Y' B' X' T' l1
  try dsimp only
  try k_fold
  have l1' : ∀ p ∈ l.led w ln tl n tn nn [] np ++ rest, p.1 < L' := l1
  refine goal_G fun GG hGG => ?_
  obtain ⟨o1, hE, d1⟩ := CellsAre.one Y'
  refine hGG ?_
  clear hGG GG
  subst hE
  clear Y'
  replace N' : News g' L' h' ((L' + 1, o1) :: (l.led w ln tl n tn nn [] np ++ rest)) := N'
  first | refine Exists.elim (hka) fun nk hka => ?_ | refine and_on2 (hka) fun nk hka => ?_
  first | refine Exists.elim (Fr.some F' [("lexer", .ref l.lx), ("keys", .ref ka)] ⟨rfl, rfl, trivial⟩) fun u F1 => ?_ | refine and_on2 (Fr.some F' [("lexer", .ref l.lx), ("keys", .ref ka)] ⟨rfl, rfl, trivial⟩) fun u F1 => ?_
  clear F'
  walk1
  refine LC_assign (h₀ := g') (L := L') (m := kstB u [("lexer", .ref l.lx), ("keys", .ref ka)]) rfl (by rfl) (by rfl) (by decide) rfl (by decide) rfl rfl ?_
  walk
  refine lc_src_list F1 N' (N'.isList (.tail _ (List.mem_append_right _ hka))) ?_
  generalize hbs : ((L' + 1, o1) :: (l.led w ln tl n tn nn [] np ++ rest) : List (Addr × Obj)) = bs at N' ⊢
  have mc : (L' + 1, o1) ∈ bs := by rw [← hbs]; exact .head _
  have mr : ∀ p ∈ rest, p ∈ bs := fun p hp => by rw [← hbs]; exact .tail _ (List.mem_append_right _ hp)
  rintro I2 oI2 D C oC h8 tk8 hh F8 N8 hli hC nCD nCI nDI offCD offI
  have oC' : Off C bs := fun p hp => (offCD p hp).1
  have oD' : Off D bs := fun p hp => (offCD p hp).2
  clear offCD N' F1
  have nIC : I2 ≠ C := Ne.symm nCI
  have nID : I2 ≠ D := Ne.symm nDI
  have nDC : D ≠ C := Ne.symm nCD
  refine lc_loop_G (fun n news₁ => Ex7 fun (dn td : List (Addr × List Key)) (oC : Obj) (mc : Str → Option Value) (oI : Obj) (nrw : List (Addr × List AP × Nat)) (ne : Nat) => rows = dn ++ td ∧ n = td.length ∧ news₁ = ((I2, oI) :: (C, oC) :: (D, listOf (nrw.map fun x => Value.ref x.1).toArray ne) :: (nrw.map wobj ++ bs)) ∧ isLi oI ka dn.length ∧ NsObj oC mc ∧
      (∀ x ∈ nrw, ∀ q ∈ x.2.1, PairIn rest q) ∧ nrw.map (fun x => x.2.1.map (·.2)) = dn.map (fun r => srt r.2) ∧ (∀ x ∈ nrw, x.1 ≠ I2 ∧ x.1 ≠ C ∧ x.1 ≠ D ∧ L' + 1 < x.1) ∧ (nrw.map (·.1)).Nodup)
      F8 (News.rot' N8) (Ex7.mk ([]) rows oC _ oI2 ([]) 0 ⟨rfl, rfl, rfl, hli, hC, (fun _ h => nomatch h), rfl, (fun _ h => nomatch h), List.nodup_nil⟩) ?_
  clear F8 N8 hC hli
  intro J1 R1 hJ1 hR1 n' news₁ h9 tk9 F9 N9 hJJ
  refine hJJ _ fun dn td oC mcc oI nrw ne hAA => ?_
  refine and_on9 hAA fun hrd hE1 hE2 hli hC hnrw hnl hnx hnd => ?_
  clear hAA hJJ
  rw [hE2] at N9
  clear hE2
  have hl9 := N9.isList (.tail _ (.tail _ (.tail _ (List.mem_append_right _ (mr _ hka)))))
  have offI2 : Off I2 ((C, oC) :: (D, listOf (nrw.map fun x => Value.ref x.1).toArray ne) :: (nrw.map wobj ++ bs)) := Off.cons nCI (Off.cons nDI (Off.app (all_wobj (P := fun a => a ≠ I2) fun x hx => (hnx x hx).1) offI))
  refine list_on td (fun etd => ?_) fun r td' etd => ?_
  · rw [etd] at hrd
    refine next_list_end rfl F9 N9 offI2 hli hl9 (by rw [hrd]; simp) ?_
    intro h10 F10 N10
    refine hR1 _ _ (lcd (n := ne) (F10) (News.swap N10) (hC) (all_app (P := fun a => a ≠ C ∧ a ≠ D) (all_wobj (P := fun a => a ≠ C ∧ a ≠ D) fun x hx => ⟨(hnx x hx).2.1, (hnx x hx).2.2.1⟩) fun p hp => ⟨oC' p hp, oD' p hp⟩) (nCD) ?_)
    rw [List.append_nil] at hrd
    rw [← hrd] at hnl
    clear hrd
    clear F9 N9 F10 N10 hl9
    intro h11 tk11 F11 N11 o11
    walk
    rename (_ == sysModules) = false => lo
    rename Obj.IsDictOf (intKind _ _) _ _ => hi
    rename _ ∧ AllLt _ _ => lH
    rename Fr g' L' _ _ => F12
    rename News g' L' _ _ => N12
    rename_i H h12 oH hs12 fs12 fi12
    clear hs12 fs12 fi12
    have lHa : ∀ p ∈ nrw.map wobj ++ bs, p.1 < H := AllLt.of lH.2
    have nHD : D ≠ H := Nat.ne_of_lt lH.1
    have nDc : D ≠ L' + 1 := fun e => o11 _ (List.mem_append_right _ mc) e.symm
    have nHc : H ≠ L' + 1 := Nat.ne_of_gt (lHa _ (List.mem_append_right _ mc))
    rw [← hbs] at N12 o11 lHa
    have lw : ∀ x ∈ nrw, x.1 ≠ D ∧ x.1 ≠ H ∧ L' + 1 < x.1 := fun x hx => ⟨(hnx x hx).2.2.1, Nat.ne_of_lt (lHa (wobj x) (List.mem_append_left _ (List.mem_map_of_mem hx))), (hnx x hx).2.2.2⟩
    have lrD : ∀ p ∈ l.led w ln tl n tn nn [] np ++ rest, p.1 ≠ D := fun p hp => o11 p (List.mem_append_right _ (.tail _ hp))
    have lrH : ∀ p ∈ l.led w ln tl n tn nn [] np ++ rest, p.1 ≠ H := fun p hp => Nat.ne_of_lt (lHa p (List.mem_append_right _ (.tail _ hp)))
    have N13 : News g' L' h12 ((L' + 1, o1) :: (D, listOf (nrw.map fun x => Value.ref x.1).toArray ne) :: (H, oH) :: (nrw.map wobj ++ (l.led w ln tl n tn nn [] np ++ rest))) := News.askIn N12
    have offc : Off (L' + 1) ((D, listOf (nrw.map fun x => Value.ref x.1).toArray ne) :: (H, oH) :: (nrw.map wobj ++ (l.led w ln tl n tn nn [] np ++ rest))) := Off.cons nDc (Off.cons nHc (Off.app (all_wobj (P := fun a => a ≠ L' + 1) fun x hx => Nat.ne_of_gt (lw x hx).2.2) fun p hp => Nat.ne_of_lt (Nat.lt_succ_of_lt (l1' p hp))))
    refine storeX_C F12 N13 rfl (UpdF.head offc) d1 ?_
    intro h14 c1 F14 N14 e1
    clear F12 N12 N13 offc o11 lHa
    replace N14 : News g' L' h14 (l.led w ln tl n tn nn [] np ++ ((L' + 1, c1) :: (D, listOf (nrw.map fun x => Value.ref x.1).toArray ne) :: (H, oH) :: (nrw.map wobj ++ rest))) := News.swapApp (p := (L' + 1, c1) :: (D, listOf (nrw.map fun x => Value.ref x.1).toArray ne) :: (H, oH) :: nrw.map wobj) N14
    generalize hX14 : l.led w ln tl n tn nn [] np ++ ((L' + 1, c1) :: (D, listOf (nrw.map fun x => Value.ref x.1).toArray ne) :: (H, oH) :: (nrw.map wobj ++ rest)) = X14 at N14
    walk
    refine wpAny_For ?_
    walk
    rename IsRange _ _ _ _ _ _ _ _ => hR
    rename Fr g' L' _ _ => F15
    rename News g' L' _ _ => N15
    refine wpAny_pyIter_range hR (by decide +kernel) ?_
    rw [show Builtin.Range.rangeSize 0 4 1 = 4 from by decide]
    rw [← hX14] at N15
    clear hX14
    refine and_on3 (led_new (o := riObj 0 4 1) F15 N15 rfl) fun F16 N16 ne16 => ?_
    dsimp only
    generalize hIsz : Array.size _ = I at N16 ne16 ⊢
    clear F15 N15 hR
    have lpb : l.pb < L' := l1' _ (.head _)
    refine For_G (fun n₀ m₁ news₁ => Ex3 fun (k : Nat) (pbs : List Value) (np : Nat) => k + n₀ = 4 ∧ news₁ = l.led w ln tl n tn nn pbs np ++ ((I, riObj k (4 - k) 1) :: (L' + 1, c1) :: (D, listOf (nrw.map fun x => Value.ref x.1).toArray ne) :: (H, oH) :: (nrw.map wobj ++ rest)) ∧ StrsAre pbs ((List.range k).map digS) ∧ AllIs m₁ [("lexer", .ref l.lx), ("keys", .ref ka), ("wishes", .ref D)])
      (n₀ := 4) F16 (News.swapApp (p := [(I, riObj 0 4 1)]) (q := l.led w ln tl n tn nn [] np) N16) (Ex3.mk 0 ([]) np ⟨rfl, rfl, .nil, ⟨rfl, rfl, rfl, trivial⟩⟩) ?_
    clear F16 N16
    have offX : ∀ p ∈ (L' + 1, c1) :: (D, listOf (nrw.map fun x => Value.ref x.1).toArray ne) :: (H, oH) :: (nrw.map wobj ++ rest), p.1 ≠ I := fun p hp => ne16 p (List.mem_append_right (l.led w ln tl n tn nn [] np) hp)
    have offL : ∀ p ∈ l.led w ln tl n tn nn [] np, p.1 ≠ I := fun p hp => ne16 p (List.mem_append_left _ hp)
    have lwG : ∀ (ws' : List (Addr × List AP × Nat)), ws'.map (·.1) = nrw.map (·.1) → ∀ x ∈ ws', x.1 ≠ D ∧ x.1 ≠ H ∧ L' + 1 < x.1 := fun ws' e x hx => by
      have h1 : x.1 ∈ nrw.map (·.1) := by rw [← e]; exact List.mem_map_of_mem (f := fun x : Addr × List AP × Nat => x.1) hx
      refine goal_G fun GG hGG => ?_
      obtain ⟨y, hy, e2⟩ := List.mem_map.mp h1
      refine hGG ?_
      clear hGG GG
      rw [← e2]; exact lw y hy
    have offG : ∀ (ws' : List (Addr × List AP × Nat)) (oH' : Obj), ws'.map (·.1) = nrw.map (·.1) → ∀ p ∈ (L' + 1, c1) :: (D, listOf (ws'.map fun x => Value.ref x.1).toArray ne) :: (H, oH') :: (ws'.map wobj ++ rest), p.1 ≠ l.pb ∧ p.1 ≠ l.dl ∧ p.1 ≠ l.at0 := by
      intro ws' oH' e
      have mpb : (l.pb, listOf ([] : List Value).toArray np) ∈ l.led w ln tl n tn nn [] np ++ rest := .head _
      have mdl : (l.dl, dictOf (l.es w ln tl) 4) ∈ l.led w ln tl n tn nn [] np ++ rest := List.mem_append_left _ (by simp)
      have mat : (l.at0, listOf #[.int n tn] nn) ∈ l.led w ln tl n tn nn [] np ++ rest := List.mem_append_left _ (by simp)
      have ac : ∀ {a : Addr} {o : Obj} {r : List (Addr × Obj)}, (a ≠ l.pb ∧ a ≠ l.dl ∧ a ≠ l.at0) → (∀ p ∈ r, p.1 ≠ l.pb ∧ p.1 ≠ l.dl ∧ p.1 ≠ l.at0) → ∀ p ∈ (a, o) :: r, p.1 ≠ l.pb ∧ p.1 ≠ l.dl ∧ p.1 ≠ l.at0 := fun h t => all_cons (P := fun a => a ≠ l.pb ∧ a ≠ l.dl ∧ a ≠ l.at0) h t
      refine ac ⟨Nat.ne_of_gt (Nat.lt_succ_of_lt (l1' _ mpb)), Nat.ne_of_gt (Nat.lt_succ_of_lt (l1' _ mdl)), Nat.ne_of_gt (Nat.lt_succ_of_lt (l1' _ mat))⟩
        (ac ⟨fun e => lrD _ mpb e.symm, fun e => lrD _ mdl e.symm, fun e => lrD _ mat e.symm⟩ (ac ⟨fun e => lrH _ mpb e.symm, fun e => lrH _ mdl e.symm, fun e => lrH _ mat e.symm⟩ (all_app (P := fun a => a ≠ l.pb ∧ a ≠ l.dl ∧ a ≠ l.at0) (all_wobj (P := fun a => a ≠ l.pb ∧ a ≠ l.dl ∧ a ≠ l.at0) fun x hx => ?_) fun p hp => ⟨(hoff p hp).2.2, (hoff p hp).1, (hoff p hp).2.1⟩)))
      have q := (lwG ws' e x hx).2.2
      exact ⟨Nat.ne_of_gt (Nat.lt_trans (Nat.lt_succ_of_lt (l1' _ mpb)) q), Nat.ne_of_gt (Nat.lt_trans (Nat.lt_succ_of_lt (l1' _ mdl)) q), Nat.ne_of_gt (Nat.lt_trans (Nat.lt_succ_of_lt (l1' _ mat)) q)⟩
    have offXl := offG nrw oH rfl
    clear ne16
    intro J2 Q2 hJ2 hQ2 n₀ m₁ news₁ h₁ tk₁ F1 N1 hJJ
    refine hJJ _ fun k pbs np hAA => ?_
    refine and_on4 hAA fun hkn hE1 hpb hm => ?_
    clear hAA hJJ
    rw [hE1] at N1
    clear hE1
    first | refine Exists.elim (Fr.some F1 _ hm) fun u' F1 => ?_ | refine and_on2 (Fr.some F1 _ hm) fun u' F1 => ?_
    clear hm
    replace N1 := News.swapApp (q := [(I, riObj k (4 - k) 1)]) N1
    have offI : Off I (l.led w ln tl n tn nn pbs np ++ ((L' + 1, c1) :: (D, listOf (nrw.map fun x => Value.ref x.1).toArray ne) :: (H, oH) :: (nrw.map wobj ++ rest))) := fun p hp => by
      rcases List.mem_append.mp hp with hp | hp
      · exact Lex.any (P := fun a => a ≠ I) offL p hp
      · exact offX p hp
    refine nat_on n₀ (fun en₀ => ?_) fun n₁ en₀ => ?_
    · have hk4 : k = 4 := by lia
      refine next_range_end rfl F1 N1 offI (by rw [hk4]; decide) ?_
      intro h5 F5 N5
      refine hQ2 _ _ ?_
      clear F1 N1
      refine Lex.open N5 fun X5 back5 N5w => ?_
      clear N5
      walk
      rename Fr g' L' _ _ => F6
      rename News g' L' _ _ => N6
      rw [hk4, show (List.range 4).map digS = [digS 0, digS 1, digS 2, digS 3] from rfl] at hpb
      refine strs_on hpb fun t0 pbs2 epb hpb2 => ?_
      replace N6 := back5 N6
      rw [epb] at N6
      clear back5
      have hpl := strs_len hpb2
      refine lift (d := 780) (u := 4300) rfl (Nat.le_of_ble_eq_true rfl) rfl (Nat.le_of_ble_eq_true rfl) (gettok_pb B' F6 X' T' rfl N6 ok (fun p hp => (offXl p hp).1) (by rw [hpl]; decide) ?_)
      intro h7 tk7 np7 F7 N7
      clear F6 N6
      generalize hX7 : l.led w ln tl n tn nn pbs2 np7 ++ ((L' + 1, c1) :: (D, listOf (nrw.map fun x => Value.ref x.1).toArray ne) :: (H, oH) :: (nrw.map wobj ++ rest)) = X7 at N7
      walk
      rename Fr g' L' _ _ => F8
      rename News g' L' _ _ => N8
      rw [← hX7] at N8
      clear hX7
      have hKP : ∀ x ∈ nrw, ∀ q ∈ x.2.1, PairIn rest q ∧ KP q.2 := fun x hx q hq => by
        refine ⟨hnrw x hx q hq, ?_⟩
        have e1 : x.2.1.map (·.2) ∈ rows.map (fun r => srt r.2) := by rw [← hnl]; exact List.mem_map_of_mem (f := fun x : Addr × List AP × Nat => x.2.1.map (·.2)) hx
        refine goal_G fun GG hGG => ?_
        obtain ⟨r, hr, e2⟩ := List.mem_map.mp e1
        refine hGG ?_
        clear hGG GG
        have e3 : q.2 ∈ srt r.2 := by rw [e2]; exact List.mem_map_of_mem hq
        have e4 := srt_mem (h3 r hr) e3
        refine goal_G fun GG hGG => ?_
        obtain ⟨i, hi, e5⟩ := List.getElem_of_mem hr
        refine hGG ?_
        clear hGG GG
        refine goal_G fun GG hGG => ?_
        obtain ⟨j, hj, e6⟩ := List.getElem_of_mem e4
        refine hGG ?_
        clear hGG GG
        have hj3 : j < 3 := by rw [← h3 r hr]; exact hj
        have e7 := hI i (by lia) j hj3
        refine ⟨i, by lia, ?_⟩
        rw [← e7, ← e6]
        simp [List.getD, hi, e5, hj]
      have hsz : St.size ⟨nrw.map (fun x => x.2.1.map (·.2)), ([] : List AP).map (·.2), (some 0).toList ++ [1, 2, 3]⟩ ≤ 16 := by
        rw [hnl]
        obtain ⟨r0, r1, r2, r3, hr⟩ : ∃ r0 r1 r2 r3, rows = [r0, r1, r2, r3] := by
          rcases rows with _ | ⟨r0, _ | ⟨r1, _ | ⟨r2, _ | ⟨r3, _ | ⟨r4, rr⟩⟩⟩⟩⟩
          · simp at h4
          · simp at h4
          · simp at h4
          · simp at h4
          · exact ⟨r0, r1, r2, r3, rfl⟩
          · simp at h4
        rw [hr] at h3 ⊢
        unfold St.size
        have a0 := srt_len (h3 r0 (by simp))
        have a1 := srt_len (h3 r1 (by simp))
        have a2 := srt_len (h3 r2 (by simp))
        have a3 := srt_len (h3 r3 (by simp))
        simp [a0, a1, a2, a3]
      refine While_G (fun f m₁ news₁ => Ex11 fun (ws : List (Addr × List AP × Nat)) (hd : List AP) (q : List Nat) (cur : Option Nat) (pbs : List Value) (np nf : Nat) (oH : Obj) (tl tn wt : Tok) =>
        news₁ = l.led w ln tl nf tn nn pbs np ++ ((L' + 1, c1) :: (D, listOf (ws.map fun x => Value.ref x.1).toArray ne) :: (H, oH) :: (ws.map wobj ++ rest)) ∧
        AllIs m₁ [("lexer", .ref l.lx), ("wishes", .ref D), ("word", .str (curS cur) wt)] ∧
        Obj.IsDictOf (intKind PySem.Challenge.rw_pg0112_01.row.prog w) oH (hd.map fun q => (q.2.2.2, Value.ref q.1)) ∧
        StrsAre pbs (q.map digS) ∧ (∀ i ∈ q, i < 4) ∧ (∀ i, cur = some i → i < 4) ∧ (cur = none → q = []) ∧
        tx.cps.toList.drop nf = [] ∧ nf ≤ tx.length ∧
        ws.map (·.1) = nrw.map (·.1) ∧ (∀ x ∈ ws, ∀ q ∈ x.2.1, PairIn rest q ∧ KP q.2) ∧ (∀ q ∈ hd, PairIn rest q ∧ KP q.2) ∧
        hd.length + f ≤ 17 ∧ St.size ⟨ws.map (fun x => x.2.1.map (·.2)), hd.map (·.2), cur.toList ++ q⟩ ≤ f ∧
        askRun f ⟨ws.map (fun x => x.2.1.map (·.2)), hd.map (·.2), cur.toList ++ q⟩ = askRun 16 ⟨rows.map fun r => srt r.2, [], [0, 1, 2, 3]⟩)
        (n₀ := 16) F8 N8 (Ex11.mk nrw ([]) ([1, 2, 3]) (some 0) pbs2 np7 n oH tl tn t0 ⟨rfl, ⟨rfl, rfl, rfl, trivial⟩, hi, hpb2, by simp, by simp, by simp, htx, hn, rfl, hKP, (fun _ h => nomatch h), by simp, hsz, by rw [hnl]; rfl⟩) ?_
      clear F8 N8 hpb hpb2 hi hsz hpl
      intro J3 Q3 hJ3 hQ3 f m₁ news₁ h8 tk8 F8 N8 hJJ
      refine hJJ _ fun ws hd q cur pbs np nf oH tl tn wt hAA => ?_
      refine and_on15 hAA fun hE0 hm hi hpb hq4 hc4 hcn htx hnf hwa hws hhd hlen hsz hrun => ?_
      clear hAA hJJ
      rw [hE0] at N8
      clear hE0
      first | refine Exists.elim (Fr.some F8 _ hm) fun u8 F8 => ?_ | refine and_on2 (Fr.some F8 _ hm) fun u8 F8 => ?_
      clear hm
      have mH8 : (H, oH) ∈ l.led w ln tl nf tn nn pbs np ++ ((L' + 1, c1) :: (D, listOf (ws.map fun x => Value.ref x.1).toArray ne) :: (H, oH) :: (ws.map wobj ++ rest)) := List.mem_append_right _ (.tail _ (.tail _ (.head _)))
      have mD8 : (D, listOf (ws.map fun x => Value.ref x.1).toArray ne) ∈ l.led w ln tl nf tn nn pbs np ++ ((L' + 1, c1) :: (D, listOf (ws.map fun x => Value.ref x.1).toArray ne) :: (H, oH) :: (ws.map wobj ++ rest)) := List.mem_append_right _ (.tail _ (.head _))
      have mc8 : (L' + 1, c1) ∈ l.led w ln tl nf tn nn pbs np ++ ((L' + 1, c1) :: (D, listOf (ws.map fun x => Value.ref x.1).toArray ne) :: (H, oH) :: (ws.map wobj ++ rest)) := List.mem_append_right _ (.head _)
      have mw8 : ∀ x ∈ ws, wobj x ∈ l.led w ln tl nf tn nn pbs np ++ ((L' + 1, c1) :: (D, listOf (ws.map fun x => Value.ref x.1).toArray ne) :: (H, oH) :: (ws.map wobj ++ rest)) := fun x hx => List.mem_append_right _ (.tail _ (.tail _ (.tail _ (List.mem_append_left _ (List.mem_map_of_mem hx)))))
      have mr8 : ∀ p ∈ rest, p ∈ l.led w ln tl nf tn nn pbs np ++ ((L' + 1, c1) :: (D, listOf (ws.map fun x => Value.ref x.1).toArray ne) :: (H, oH) :: (ws.map wobj ++ rest)) := fun p hp => List.mem_append_right _ (.tail _ (.tail _ (.tail _ (List.mem_append_right _ hp))))
      generalize hX8 : l.led w ln tl nf tn nn pbs np ++ ((L' + 1, c1) :: (D, listOf (ws.map fun x => Value.ref x.1).toArray ne) :: (H, oH) :: (ws.map wobj ++ rest)) = X8 at N8 mH8 mD8 mc8 mw8 mr8
      walk
      refine wpAny_truthy_bool ?_
      refine opt_on cur (fun ecur => ?c0) (fun i ecur => ?c1)
      case c0 =>
        refine ifF (by rw [ecur, show (curS none != ("" : Str)) = false from by decide]; decide) ?_
        have hq0 := hcn ecur
        rw [hq0] at hpb
        rw [ecur, hq0] at hrun
        have hpb0 : pbs = [] := strs_nil hpb
        rw [hpb0] at hX8
        have hfin2 : hd.map (·.2) = [ha, hb, hc] := by
          have e : askRun f ⟨ws.map (fun x => x.2.1.map (·.2)), hd.map (·.2), []⟩ = _ := hrun
          rw [askRun_nil] at e
          rw [← hfin, ← e]
        replace N8 := News.one N8 mc8
        walk
        refine hQ3 _ _ ?_
        walk
        rename Fr g' L' _ _ => F9
        rename News g' L' _ _ => N9
        refine LC_eval (h₀ := g') (L := L') (m := kstB u8 [("lexer", .ref l.lx), ("wishes", .ref D), ("word", .str (curS cur) wt)]) (by rfl) (by decide) rfl (by decide) ?_
        walk
        refine lc_src_dict F9 N9 (.tail _ mH8) hi lo ?_
        rintro I2 oI2 ep D2 C oC h10 tk10 hh F10 N10 hit ha' hC nCD nCI nDI offCD offI2
        have mc2 : (L' + 1, c1) ∈ (L' + 1, c1) :: X8 := .head _
        have mH2 : (H, oH) ∈ (L' + 1, c1) :: X8 := .tail _ mH8
        have mr2 : ∀ p ∈ rest, p ∈ (L' + 1, c1) :: X8 := fun p hp => .tail _ (mr8 p hp)
        have ml2 : ∀ p ∈ l.led w ln tl nf tn nn [] np, p ∈ (L' + 1, c1) :: X8 := fun p hp => .tail _ (hX8 ▸ List.mem_append_left _ hp)
        clear hX8 mH8 mD8 mc8 mw8 mr8
        generalize (L' + 1, c1) :: X8 = bs2 at N10 offCD offI2 mc2 mH2 mr2 ml2
        have oCb : Off C bs2 := fun p hp => (offCD p hp).1
        have oDb : Off D2 bs2 := fun p hp => (offCD p hp).2
        have hd3 : hd.length = 3 := by
          have := congrArg List.length hfin2
          simpa using this
        have hnod : ((hkv hd).map (·.1)).Nodup := by obtain ⟨_, _, _, _, _, _, hn⟩ := hi; exact hn
        refine lc_loop_G (fun n news₁ => Ex5 fun (i : Nat) (oC : Obj) (mc : Str → Option Value) (oI : Obj) (ne : Nat) => i + n = 3 ∧ news₁ = ((I2, oI) :: (C, oC) :: (D2, listOf (pvs (hd.take i)).toArray ne) :: bs2) ∧ KdkIter oI H i (hkv hd).length ep ∧ NsObj oC mc) (n₀ := 3)
          F10 (News.rot' N10) (Ex5.mk 0 oC _ oI2 0 ⟨rfl, rfl, hit, hC⟩) ?_
        clear F10 N10 hC hit F9 N9
        intro J4 R4 hJ4 hR4 n' news₁ h11 tk11 F11 N11 hJJ
        refine hJJ _ fun i oC mcc oI ne2 hAA => ?_
        refine and_on4 hAA fun hin hE1 hit hC => ?_
        clear hAA hJJ
        rw [hE1] at N11
        clear hE1
        have oI2' : Off I2 ((C, oC) :: (D2, listOf (pvs (hd.take i)).toArray ne2) :: bs2) := Off.cons nCI (Off.cons nDI offI2)
        refine nat_on n' (fun en => ?_) fun n1 en => ?_
        · have hi3 : i = 3 := by lia
          refine next_dict_end rfl F11 N11 oI2' hit (.tail _ (.tail _ mH2)) ha' (by rw [List.length_map]; lia) ?_
          intro h12 F12 N12
          refine hR4 _ _ (lcd (n := ne2) (F12) (News.swap N12) (hC) (fun p hp => offCD p hp) (nCD) ?_)
          clear F11 N11 F12 N12
          intro h13 tk13 F13 N13 o13
          rw [List.take_of_length_le (by lia)] at N13
          refine len3_on hd3 fun x0 x1 x2 ehd => ?_
          rw [ehd] at N13 hfin2
          simp only [List.map_cons, List.map_nil, List.cons.injEq, and_true] at hfin2
          have e0 := hfin2.1
          have e1' := hfin2.2.1
          have e2' := hfin2.2.2
          have hx0 := hhd x0 (by rw [ehd]; exact .head _)
          have hx1 := hhd x1 (by rw [ehd]; exact .tail _ (.head _))
          have hx2 := hhd x2 (by rw [ehd]; exact .tail _ (.tail _ (.head _)))
          have mu : ∀ p ∈ rest, p ∈ (D2, listOf (pvs [x0, x1, x2]).toArray ne2) :: bs2 := fun p hp => .tail _ (mr2 p hp)
          walk1
          refine sorted3 (a := x0) (b := x1) (c := x2) F13 N13 (N13.isList (.head _)) (hx0.1.sub mu) (hx1.1.sub mu) (hx2.1.sub mu) (by rw [e0, e1']; exact hab) (by rw [e0, e2']; exact hac) (by rw [e1', e2']; exact hbc) ?_
          intro P nP h14 F14 N14 ltP
          have hp3 : ∀ i ∈ perm3 (keyLt x0.2 x1.2) (keyLt x0.2 x2.2) (keyLt x1.2 x2.2), i = 0 ∨ i = 1 ∨ i = 2 := fun i hi => by
            have : i < 3 := of_decide_eq_true (List.all_eq_true.mp (perm3_lt _ _ _) i hi)
            lia
          generalize hps : (perm3 (keyLt x0.2 x1.2) (keyLt x0.2 x2.2) (keyLt x1.2 x2.2)).map (fun i => [x0, x1, x2].getD i (0, (0, 0, 0))) = ps at N14
          have hp2 : ps.map (·.2) = sort3 ha hb hc := by
            rw [← hps, List.map_map, ← e0, ← e1', ← e2']
            unfold sort3
            refine List.map_congr_left fun i hi => ?_
            rcases hp3 i hi with rfl | rfl | rfl <;> rfl
          have hp4 : ∀ q ∈ ps, PairIn rest q := fun q hq => by
            rw [← hps] at hq
            refine goal_G fun GG hGG => ?_
            obtain ⟨i, hi, rfl⟩ := List.mem_map.mp hq
            refine hGG ?_
            clear hGG GG
            rcases hp3 i hi with rfl | rfl | rfl
            · exact hx0.1
            · exact hx1.1
            · exact hx2.1
          clear F13 N13
          walk
          rename News h₀ L _ _ => NE
          refine h _ _ P ps nP np tl tn nf (by assumption) (News.sub NE (fun p hp => ?_)) (fun p hp => ?_) hp4 hp2
          · rcases List.mem_cons.mp hp with rfl | hp
            · exact .head _
            · rcases List.mem_append.mp hp with hp | hp
              · exact .tail _ (.tail _ (ml2 p hp))
              · exact .tail _ (.tail _ (mr2 p hp))
          · rcases List.mem_append.mp hp with hp | hp
            · exact Nat.ne_of_lt (ltP p (.tail _ (ml2 p hp)))
            · exact Nat.ne_of_lt (ltP p (.tail _ (mr2 p hp)))
        · have hil : i < hd.length := by lia
          have hgi : (hkv hd)[i]? = some (hd[i].2.2.2, .ref hd[i].1) := by simp [hil]
          refine next_dict F11 N11 oI2' hit (.tail _ (.tail _ mH2)) ha' hgi ?_
          intro h12 oI12 tj hit12 F12 N12
          dsimp only
          refine lc_store rfl rfl F12 (News.swap N12) hC (Off.cons (Ne.symm nCI) (Off.cons (Ne.symm nCD) oCb)) ?_
          intro oC13 h13 hC13 F13 N13
          clear F11 N11 F12 N12
          refine wpAny_tests_nil ?_
          refine ifT rfl ?_
          walk1
          refine ld_cellC N13 rfl (.tail _ (.tail _ (.tail _ mc2))) e1 ?_
          refine LCgL.ld_own N13 (.head _) hC13 rfl ?_
          refine kda_item N13 (.tail _ (.tail _ (.tail _ mH2))) hi (intKind_is _ _ _ _) (val_nodup hnod hgi) ?_
          refine lc_append F13 (News.rot' N13) (Off.cons nCD (Off.cons (Ne.symm nDI) oDb)) (by rw [List.length_map, List.length_take]; lia) ?_
          intro h14 F14 N14
          refine lcs (n' := n1) (F14) (News.swap (News.rot N14)) (by lia) (hJ4 _ _ (Ex5.mk (i + 1) oC13 _ oI12 (ne2 + 1) ⟨by lia, ?_, hit12, hC13⟩))
          rw [List.take_succ_eq_append_getElem hil, show pvs (hd.take i ++ [hd[i]]) = pvs (hd.take i) ++ [Value.ref hd[i].1] from by unfold pvs; rw [List.map_append]; rfl]
      case c1 =>
        refine ifT (by rw [ecur, digS_ne]) ?_
        have hi4 := hc4 i ecur
        rw [ecur] at hrun hsz
        have hw4 : ws.length = 4 := by
          have := congrArg List.length hwa
          rw [List.length_map, List.length_map] at this
          have h5 := congrArg List.length hnl
          rw [List.length_map, List.length_map] at h5
          lia
        walk
        refine KIN.call_text (by rw [ecur]; exact dig_int i (by lia)) (by rw [ecur]; show (1 : Nat) ≤ 640; decide) ?_
        rename Fr g' L' _ _ => F9
        rename News g' L' _ _ => N9
        refine split_on (l := ws) (i := i) (by lia) fun pre xa xw xn post hwsp hpre => ?_
        refine item_genV (v := .ref xa) (N9.isList mD8) (by lia) (by simp; lia) (by simp; lia) (by rw [hwsp]; simp [← hpre]) ?_
        repeat' ((fail_if_success (with_reducible show wpAny _ _ (exec (Stmt.If _ _ _ _) _) _ _ _)); walk1; try dsimp only)
        refine nat_on f (fun ef => absurd hsz (by rw [ef]; unfold St.size; simp)) fun f0 ef => ?_
        rw [ef] at hrun hlen hsz
        replace hrun : askRun f0 (askStep ⟨ws.map (fun x => x.2.1.map (·.2)), hd.map (·.2), q⟩ i) = askRun 16 ⟨rows.map fun r => srt r.2, [], [0, 1, 2, 3]⟩ := hrun
        refine wp_cutN (fun h' tk' => Ex7 fun (ws' : List (Addr × List AP × Nat)) (hd' : List AP) (q' : List Nat) (pbs' : List Value) (np' : Nat) (oH' : Obj) (m' : Str → Option Value) => Fr g' L' h' m' ∧ AllIs m' [("lexer", .ref l.lx), ("wishes", .ref D)] ∧
          News g' L' h' (l.led w ln tl nf tn nn pbs' np' ++ ((L' + 1, c1) :: (D, listOf (ws'.map fun x => Value.ref x.1).toArray ne) :: (H, oH') :: (ws'.map wobj ++ rest))) ∧
          Obj.IsDictOf (intKind PySem.Challenge.rw_pg0112_01.row.prog w) oH' (hd'.map fun q => (q.2.2.2, Value.ref q.1)) ∧
          StrsAre pbs' (q'.map digS) ∧ (∀ i ∈ q', i < 4) ∧ ws'.map (·.1) = nrw.map (·.1) ∧ (∀ x ∈ ws', ∀ q ∈ x.2.1, PairIn rest q ∧ KP q.2) ∧ (∀ q ∈ hd', PairIn rest q ∧ KP q.2) ∧
          hd'.length + f0 ≤ 17 ∧ St.size ⟨ws'.map (fun x => x.2.1.map (·.2)), hd'.map (·.2), q'⟩ ≤ f0 ∧
          askRun f0 ⟨ws'.map (fun x => x.2.1.map (·.2)), hd'.map (·.2), q'⟩ = askRun 16 ⟨rows.map fun r => srt r.2, [], [0, 1, 2, 3]⟩) ?_ ?_
        · intro W1 hW1
          repeat' ((fail_if_success (with_reducible show wpAny _ _ (compareOp _ (Value.ref _) (Value.ref _)) _ _ _)); walk1; try dsimp only)
          rename Fr g' L' _ _ => F10
          rename News g' L' _ _ => N10
          rename_i E0 h10 lE0
          replace N10 : News g' L' _ ((E0, listOf #[] 0) :: X8) := N10
          have hxw : (xa, xw, xn) ∈ ws := by rw [hwsp]; exact List.mem_append_right _ (.head _)
          refine keys_ne (ps := xw) (qs := []) (N10.isList (.tail _ (mw8 _ hxw))) (N10.isList (.head _)) (fun q hq => PairIn.isKey N10 ((hws _ hxw q hq).1.sub fun p hp => .tail _ (mr8 p hp))) (fun _ h => nomatch h) (Nat.le_of_ble_eq_true rfl) ?_
          clear mw8 mr8 mH8 mD8 mc8
          have hgd : (ws.map (fun x => x.2.1.map (·.2))).getD i [] = xw.map (·.2) := by rw [hwsp]; simp [← hpre]
          walk
          refine wpAny_truthy_bool ?_
          have hsz' : (ws.map (fun x => x.2.1.map (·.2)) |>.map List.length).sum + q.length ≤ f0 := by
            have e : St.size ⟨ws.map (fun x => x.2.1.map (·.2)), hd.map (·.2), (some i).toList ++ q⟩ = (ws.map (fun x => x.2.1.map (·.2)) |>.map List.length).sum + (q.length + 1) := rfl
            rw [e] at hsz
            lia
          refine list_on xw (fun exw => ?_) fun kq xr exw => ?_
          · refine ifF (by rw [exw]; simp) ?_
            walk
            rename Fr g' L' _ _ => F11
            rename News g' L' _ _ => N11
            have e0 : askStep ⟨ws.map (fun x => x.2.1.map (·.2)), hd.map (·.2), q⟩ i = ⟨ws.map (fun x => x.2.1.map (·.2)), hd.map (·.2), q⟩ := by
              unfold askStep
              dsimp only
              rw [hgd, exw]
              rfl
            rw [e0] at hrun
            exact hW1 _ _ (Ex7.mk ws hd q pbs np oH _ ⟨F11, ⟨rfl, rfl, trivial⟩, hX8 ▸ News.drop1 N11, hi, hpb, hq4, hwa, hws, hhd, by lia, hsz', hrun⟩)
          · refine ifT (by rw [exw]; simp) ?_
            rw [exw] at hwsp hxw hgd
            rw [hwsp] at hX8 hwa hws hsz' hrun hxw hgd
            have hnd2 : ∀ y ∈ pre ++ post, y.1 ≠ xa := by
              have h1 : ((pre ++ (xa, kq :: xr, xn) :: post).map (·.1)).Nodup := by rw [hwa]; exact hnd
              rw [List.map_append, List.map_cons, List.nodup_append] at h1
              intro y hy e
              rcases List.mem_append.mp hy with hy | hy
              · exact h1.2.2 y.1 (List.mem_map_of_mem hy) xa (.head _) e
              · have h2 : y.1 ∈ post.map (fun x => x.1) := List.mem_map_of_mem (f := fun x : Addr × List AP × Nat => x.1) hy
                rw [e] at h2
                exact (List.nodup_cons.mp h1.2.1).1 h2
            have hxo := lwG _ hwa (xa, kq :: xr, xn) hxw
            rw [← hX8] at N10
            replace N10 := News.toX N10
            clear hX8
            have mcr : (L' + 1, c1) ∈ (L' + 1, c1) :: (D, listOf ((pre ++ (xa, kq :: xr, xn) :: post).map fun x => Value.ref x.1).toArray ne) :: ((pre ++ post).map wobj ++ rest) := .head _
            have mrr : ∀ p ∈ rest, p ∈ (L' + 1, c1) :: (D, listOf ((pre ++ (xa, kq :: xr, xn) :: post).map fun x => Value.ref x.1).toArray ne) :: ((pre ++ post).map wobj ++ rest) := fun p hp => .tail _ (.tail _ (List.mem_append_right _ hp))
            have offAr : Off xa ((L' + 1, c1) :: (D, listOf ((pre ++ (xa, kq :: xr, xn) :: post).map fun x => Value.ref x.1).toArray ne) :: ((pre ++ post).map wobj ++ rest)) :=
              Off.cons (Nat.ne_of_lt hxo.2.2) (Off.cons (Ne.symm hxo.1) (Off.app (all_wobj (P := fun a => a ≠ xa) hnd2) fun p hp => Nat.ne_of_lt (Nat.lt_trans (Nat.lt_succ_of_lt (l1' p (List.mem_append_right _ hp))) hxo.2.2)))
            have offHr : Off H ((L' + 1, c1) :: (D, listOf ((pre ++ (xa, kq :: xr, xn) :: post).map fun x => Value.ref x.1).toArray ne) :: ((pre ++ post).map wobj ++ rest)) :=
              Off.cons (Ne.symm nHc) (Off.cons nHD (Off.app (all_wobj (P := fun a => a ≠ H) fun y hy => (lwG _ hwa y ((List.mem_append.mp hy).elim (fun h => List.mem_append_left _ h) fun h => List.mem_append_right _ (.tail _ h))).2.1) fun p hp => lrH p (List.mem_append_right _ hp)))
            have hG := offG _ oH hwa
            have offP : ∀ {o o2 : Obj}, ∀ p ∈ (H, o) :: (xa, o2) :: ((L' + 1, c1) :: (D, listOf ((pre ++ (xa, kq :: xr, xn) :: post).map fun x => Value.ref x.1).toArray ne) :: ((pre ++ post).map wobj ++ rest)), p.1 ≠ l.pb :=
              Off.cons (hG (H, oH) (.tail _ (.tail _ (.head _)))).1 (Off.cons (hG (wobj (xa, kq :: xr, xn)) (.tail _ (.tail _ (.tail _ (List.mem_append_left _ (List.mem_map_of_mem hxw)))))).1 (Off.cons (hG _ (.head _)).1 (Off.cons (hG (D, _) (.tail _ (.head _))).1 (Off.app (fun p hp => (hG p (.tail _ (.tail _ (.tail _ (List.mem_append_left _ ((mem_mid wobj).mpr (.inr hp))))))).1) fun p hp => (hG p (.tail _ (.tail _ (.tail _ (List.mem_append_right _ hp))))).1))))
            have hDr : ((pre ++ (xa, kq :: xr, xn) :: post).map fun x => Value.ref x.1) = ((pre ++ (xa, xr, xn + 1) :: post).map fun x => Value.ref x.1) := by simp
            have ofXr : ∀ {h : Heap} {ld : List (Addr × Obj)} {o : Obj}, News g' L' h (ld ++ ((H, o) :: (xa, listOf (pvs xr).toArray (xn + 1)) :: ((L' + 1, c1) :: (D, listOf ((pre ++ (xa, kq :: xr, xn) :: post).map fun x => Value.ref x.1).toArray ne) :: ((pre ++ post).map wobj ++ rest)))) → News g' L' h (ld ++ ((L' + 1, c1) :: (D, listOf ((pre ++ (xa, xr, xn + 1) :: post).map fun x => Value.ref x.1).toArray ne) :: (H, o) :: ((pre ++ (xa, xr, xn + 1) :: post).map wobj ++ rest))) := fun {h ld o} N => by
              rw [hDr] at N
              exact News.ofX (x := (xa, xr, xn + 1)) (News.swapApp (q := [(H, o), (xa, listOf (pvs xr).toArray (xn + 1))]) N)
            replace N10 : News g' L' _ ((H, oH) :: (xa, listOf (pvs (kq :: xr)).toArray xn) :: (l.led w ln tl nf tn nn pbs np ++ ((L' + 1, c1) :: (D, listOf ((pre ++ (xa, kq :: xr, xn) :: post).map fun x => Value.ref x.1).toArray ne) :: ((pre ++ post).map wobj ++ rest)))) := N10
            generalize (L' + 1, c1) :: (D, listOf ((pre ++ (xa, kq :: xr, xn) :: post).map fun x => Value.ref x.1).toArray ne) :: ((pre ++ post).map wobj ++ rest) = rr at N10 mcr mrr offAr offHr offP ofXr
            have offA : ∀ {pbs np}, Off xa (l.led w ln tl nf tn nn pbs np ++ rr) :=
              Off.app (Lex.any (P := fun a => a ≠ xa) (fun q hq => Nat.ne_of_lt (Nat.lt_trans (Nat.lt_succ_of_lt (l1' q (List.mem_append_left _ hq))) hxo.2.2))) offAr
            have offH : ∀ {pbs np}, Off H (l.led w ln tl nf tn nn pbs np ++ rr) := Off.app (Lex.any (P := fun a => a ≠ H) (fun q hq => lrH q (List.mem_append_left _ hq))) offHr
            refine Lex.open2 N10 mcr fun Y10 mY10 oY10 bk10 N10w => ?_
            clear N10
            have hkq := hws _ hxw kq (.head _)
            have hwl : xr.length + 1 ≤ 16 := by
              have e : ((pre ++ (xa, kq :: xr, xn) :: post).map (fun x => x.2.1.map (·.2)) |>.map List.length).sum = ((pre ++ post).map (fun x => x.2.1.map (·.2)) |>.map List.length).sum + (xr.length + 1) := by
                simp; lia
              lia
            walk
            refine kl_popAt (its := (pvs (kq :: xr)).toArray) (k := 0) (p := []) (y := .ref kq.1) (q := pvs xr) (by assumption) (by assumption) (by decide) (by simp [seqIndex?]) rfl (Upd.tail (Ne.symm hxo.2.1) (Upd.head (oY10 offA))) (by rw [sizeLine_eq]; simp; lia) ?_
            intro h12 F12 N12
            walk
            rename Fr g' L' _ _ => F13
            rename News g' L' _ _ => N13
            refine PairIn.on hkq.1 fun dq nq slq u1 u2 u3 hmq => ?_
            have hTq : ∀ {h : Heap} {X : List (Addr × Obj)}, News g' L' h ((H, oH) :: X) → (∀ p ∈ rest, p ∈ X) → IsTup h kq.1 [.int kq.2.1 u1, .int kq.2.2.1 u2, .int kq.2.2.2 u3].toArray := fun N hs => ⟨_, (N _ (.tail _ (hs _ hmq))).1, rfl, _, rfl⟩
            have mr13 : ∀ {o2 : Obj} {a b c : Addr × Obj}, ∀ p ∈ rest, p ∈ (xa, o2) :: a :: b :: c :: Y10 := fun p hp => .tail _ (.tail _ (.tail _ (.tail _ (mY10 _ (mrr p hp)))))
            refine item_tupleT (hTq N13 mr13) (by decide) (by decide) rfl rfl ?_
            repeat' ((fail_if_success (with_reducible show wpAny _ _ (compareOp _ _ (Value.ref _)) _ _ _)); walk1; try dsimp only)
            rename Fr g' L' _ _ => F14
            rename News g' L' _ _ => N14
            have hwa2 : (pre ++ (xa, xr, xn + 1) :: post).map (·.1) = nrw.map (·.1) := by rw [← hwa]; simp
            have hws2 : ∀ x ∈ pre ++ (xa, xr, xn + 1) :: post, ∀ q ∈ x.2.1, PairIn rest q ∧ KP q.2 := by
              intro x hx q hq
              rcases List.mem_append.mp hx with hx | hx
              · exact hws x (List.mem_append_left _ hx) q hq
              · rcases List.mem_cons.mp hx with rfl | hx
                · exact hws _ hxw q (.tail _ hq)
                · exact hws x (List.mem_append_right _ (.tail _ hx)) q hq
            have hset : ((pre ++ (xa, kq :: xr, xn) :: post).map (fun x => x.2.1.map (·.2))).set i (xr.map (·.2)) = (pre ++ (xa, xr, xn + 1) :: post).map (fun x => x.2.1.map (·.2)) := by
              rw [← hpre]
              exact set_mid (fun x : Addr × List AP × Nat => x.2.1.map (·.2)) (x' := (xa, xr, xn + 1))
            have hsum : ((pre ++ (xa, xr, xn + 1) :: post).map (fun x => x.2.1.map (·.2)) |>.map List.length).sum + 1 + q.length ≤ f0 := by
              have e : ((pre ++ (xa, kq :: xr, xn) :: post).map (fun x => x.2.1.map (·.2)) |>.map List.length).sum = ((pre ++ (xa, xr, xn + 1) :: post).map (fun x => x.2.1.map (·.2)) |>.map List.length).sum + 1 := by
                simp; lia
              lia
            have hdl : (hkv hd).length ≤ sizeLine := by rw [sizeLine_eq, List.length_map]; lia
            have hask : askStep ⟨(pre ++ (xa, kq :: xr, xn) :: post).map (fun x => x.2.1.map (·.2)), hd.map (·.2), q⟩ i = (match (hd.find? (fun q => decide (q.2.2.2 = kq.2.2.2))).map (·.2) with
                | none => ⟨(pre ++ (xa, xr, xn + 1) :: post).map (fun x => x.2.1.map (·.2)), hd.map (·.2) ++ [kq.2], q⟩
                | some h => if keyLt kq.2 h then ⟨(pre ++ (xa, xr, xn + 1) :: post).map (fun x => x.2.1.map (·.2)), (hd.map (·.2)).map (fun x => if x.2.2 = kq.2.2.2 then kq.2 else x), q ++ [h.2.1.toNat]⟩ else ⟨(pre ++ (xa, xr, xn + 1) :: post).map (fun x => x.2.1.map (·.2)), hd.map (·.2), q ++ [i]⟩) := by
              unfold askStep
              dsimp only
              rw [hgd]
              show (match (hd.map (·.2)).find? (fun h => h.2.2 == kq.2.2.2) with | none => _ | some h => _) = _
              rw [find_keys, ← hset]
            rw [hask] at hrun
            refine opt_on (hd.find? (fun q => decide (q.2.2.2 = kq.2.2.2))) (fun hfo => ?d0) (fun hq hfo => ?d1)
            case d0 =>
              rw [hfo] at hrun
              simp only [Option.map_none] at hrun
              refine kdg_notin N14 (.head _) hi lo (intKind_is _ _ _ _) false (by rw [val_at, hfo]; rfl) ?_
              walk
              refine wpAny_truthy_bool ?_
              refine ifT (by decide) ?_
              walk
              rename Fr g' L' _ _ => F15
              rename News g' L' _ _ => N15
              refine kda_set F15 N15 (UpdF.head (Off.cons hxo.2.1 (oY10 offH))) hi (intKind_is _ _ _ _) hdl ?_
              intro h16 oH16 F16 N16 hi16
              walk
              rename Fr g' L' _ _ => F17
              rename News g' L' _ _ => N17
              rw [stored_new hfo] at hi16
              replace hi16 : Obj.IsDictOf (intKind PySem.Challenge.rw_pg0112_01.row.prog w) oH16 ((hd ++ [kq]).map fun q => (q.2.2.2, Value.ref q.1)) := by
                rw [List.map_append]; exact hi16
              refine hW1 _ _ (Ex7.mk (pre ++ (xa, xr, xn + 1) :: post) (hd ++ [kq]) q pbs np oH16 _ ⟨F17, ⟨rfl, rfl, trivial⟩, ofXr (bk10 N17), hi16, hpb, hq4, hwa2, hws2, ?_, ?_, ?_, ?_⟩)
              · intro q hq
                rcases List.mem_append.mp hq with hq | hq
                · exact hhd q hq
                · rw [List.mem_singleton.mp hq]; exact hws _ hxw kq (.head _)
              · rw [List.length_append, List.length_singleton]; lia
              · unfold St.size; dsimp only; lia
              · rw [show (hd ++ [kq]).map (fun x : AP => x.2) = hd.map (fun x => x.2) ++ [kq.2] from by simp]; exact hrun
            case d1 =>
              rw [hfo] at hrun
              simp only [Option.map_some] at hrun
              refine kdg_notin N14 (.head _) hi lo (intKind_is _ _ _ _) true (by rw [val_at, hfo]; rfl) ?_
              walk
              refine wpAny_truthy_bool ?_
              refine ifF (by decide) ?_
              walk
              rename Fr g' L' _ _ => F15
              rename News g' L' _ _ => N15
              refine kda_item N15 (.head _) hi (intKind_is _ _ _ _) (v := .ref hq.1) (by rw [val_at, hfo]; rfl) ?_
              have hhq := hhd hq (List.mem_of_find?_eq_some hfo)
              refine PairIn.on hhq.1 fun dh nh slh v1 v2 v3 hmh => ?_
              refine Exists.elim hhq.2 fun ih hih0 => ?_
              refine and_on2 hih0 fun hih4 hih => ?_
              clear hih0
              have isk1 : ∀ {h : Heap} {X : List (Addr × Obj)}, News g' L' h ((H, oH) :: X) → (∀ p ∈ rest, p ∈ X) → IsKey h kq.1 kq.2 := fun N hs => ⟨dq, nq, slq, u1, u2, u3, (N _ (.tail _ (hs _ hmq))).1⟩
              have isk2 : ∀ {h : Heap} {X : List (Addr × Obj)}, News g' L' h ((H, oH) :: X) → (∀ p ∈ rest, p ∈ X) → IsKey h hq.1 hq.2 := fun N hs => ⟨dh, nh, slh, v1, v2, v3, (N _ (.tail _ (hs _ hmh))).1⟩
              refine cmp_ofLt (tup_cmp (.inl rfl) (isk1 N15 mr13) (isk2 N15 mr13) (Nat.le_of_ble_eq_true rfl) ?_)
              rw [keyCmp_lt]
              walk
              refine wpAny_truthy_bool ?_
              refine boolOn (b := keyLt kq.2 hq.2) (fun hlt => ?b1) (fun hlt => ?b0)
              case b1 =>
                rw [hlt, if_pos rfl] at hrun
                refine ifT hlt ?_
                walk
                rename Fr g' L' _ _ => F16
                rename News g' L' _ _ => N16
                refine kda_item N16 (.head _) hi (intKind_is _ _ _ _) (v := .ref hq.1) (by rw [val_at, hfo]; rfl) ?_
                walk
                have hT2 : IsTup _ hq.1 [.int hq.2.1 v1, .int hq.2.2.1 v2, .int hq.2.2.2 v3].toArray := ⟨_, (N16 _ (.tail _ (mr13 _ hmh))).1, rfl, _, rfl⟩
                refine item_tupleT hT2 (by decide) (by decide) rfl rfl ?_
                rw [hih]
                walk
                rename Fr g' L' _ _ => F17
                rename News g' L' _ _ => N17
                rw [dig_str ih (by lia)]
                have hpl := strs_len hpb
                rw [List.length_map] at hpl
                refine lift (d := 780) (u := 4300) rfl (Nat.le_of_ble_eq_true rfl) rfl (Nat.le_of_ble_eq_true rfl) (push_spec B' F17 X' T' rfl (bk10 N17) ok offP (by lia) ?_)
                intro h18 tk18 np18 F18 N18
                refine News.gen2 (News.swapApp (q := [(H, oH), (xa, listOf (pvs xr).toArray (xn + 1))]) N18) fun X18 hX18 N18 => ?_
                have offH8 : Off H X18 := hX18 ▸ offH
                have mc18 : (L' + 1, c1) ∈ X18 := hX18 ▸ List.mem_append_right _ mcr
                replace N18 : News g' L' h18 ((H, oH) :: (xa, listOf (pvs xr).toArray (xn + 1)) :: (L' + 1, c1) :: X18) := News.sub N18 fun p hp => (List.mem_cons.mp hp).elim (fun e => e ▸ .head _) fun hp => (List.mem_cons.mp hp).elim (fun e => e ▸ .tail _ (.head _)) fun hp => (List.mem_cons.mp hp).elim (fun e => e ▸ .tail _ (.tail _ mc18)) fun hp => .tail _ (.tail _ hp)
                clear F17 N17
                walk
                rename Fr g' L' _ _ => F19
                rename News g' L' _ _ => N19
                refine kda_set F19 N19 (UpdF.head (Off.cons hxo.2.1 (Off.dup offH8 mc18))) hi (intKind_is _ _ _ _) hdl ?_
                intro h20 oH20 F20 N20 hi20
                walk
                rename Fr g' L' _ _ => F21
                rename News g' L' _ _ => N21
                replace N21 := News.drop3 N21
                rw [← hX18] at N21
                rw [stored_old hfo] at hi20
                have hk2 : (hd.map (fun x => if x.2.2.2 = kq.2.2.2 then kq else x)).map (fun x : AP => x.2) = (hd.map (fun x => x.2)).map (fun x => if x.2.2 = kq.2.2.2 then kq.2 else x) := by
                  rw [List.map_map, List.map_map]
                  refine List.map_congr_left fun x hx => ?_
                  show (if x.2.2.2 = kq.2.2.2 then kq else x).2 = (if x.2.2.2 = kq.2.2.2 then kq.2 else x.2)
                  split <;> rfl
                refine hW1 _ _ (Ex7.mk (pre ++ (xa, xr, xn + 1) :: post) (hd.map (fun x => if x.2.2.2 = kq.2.2.2 then kq else x)) (q ++ [ih]) _ np18 oH20 _ ⟨F21, ⟨rfl, rfl, trivial⟩, ofXr (News.swapApp (p := [(H, oH20), (xa, listOf (pvs xr).toArray (xn + 1))]) (q := l.led w ln tl nf tn nn (pbs ++ [_]) np18) N21), hi20, ?_, ?_, hwa2, hws2, ?_, ?_, ?_, ?_⟩)
                · rw [List.map_append]; exact strs_snoc hpb
                · intro a ha
                  rcases List.mem_append.mp ha with ha | ha
                  · exact hq4 a ha
                  · rw [List.mem_singleton.mp ha]; exact hih4
                · intro y hy
                  refine goal_G fun GG hGG => ?_
                  obtain ⟨z, hz, rfl⟩ := List.mem_map.mp hy
                  refine hGG ?_
                  clear hGG GG
                  split
                  · exact hws _ hxw kq (.head _)
                  · exact hhd z hz
                · rw [List.length_map]; lia
                · unfold St.size; dsimp only; rw [List.length_append, List.length_singleton]; lia
                · rw [hk2]
                  rw [hih] at hrun
                  exact hrun
              case b0 =>
                rw [hlt, if_neg (by decide)] at hrun
                refine ifF (by rw [hlt]; decide) ?_
                walk
                rename Fr g' L' _ _ => F17
                rename News g' L' _ _ => N17
                have hpl := strs_len hpb
                rw [List.length_map] at hpl
                refine lift (d := 780) (u := 4300) rfl (Nat.le_of_ble_eq_true rfl) rfl (Nat.le_of_ble_eq_true rfl) (push_spec B' F17 X' T' rfl (bk10 N17) ok offP (by lia) ?_)
                intro h18 tk18 np18 F18 N18
                clear F17 N17
                walk
                rename Fr g' L' _ _ => F21
                rename News g' L' _ _ => N21
                refine hW1 _ _ (Ex7.mk (pre ++ (xa, xr, xn + 1) :: post) hd (q ++ [i]) _ np18 oH _ ⟨F21, ⟨rfl, rfl, trivial⟩, ofXr N21, hi, ?_, ?_, hwa2, hws2, hhd, ?_, ?_, ?_⟩)
                · rw [List.map_append, ecur]; exact strs_snoc hpb
                · intro a ha
                  rcases List.mem_append.mp ha with ha | ha
                  · exact hq4 a ha
                  · rw [List.mem_singleton.mp ha]; exact hi4
                · lia
                · unfold St.size; dsimp only; rw [List.length_append, List.length_singleton]; lia
                · exact hrun
        · intro h' tk' hPP
          refine hPP _ fun ws' hd' q' pbs' np' oH' m' hP3 => ?_
          refine and_on12 hP3 fun F10 hm N10 hi' hpb' hq4' hwa' hws' hhd' hlen' hsz' hrun' => ?_
          clear hP3 hPP
          first | refine Exists.elim (Fr.some F10 _ hm) fun u10 F10 => ?_ | refine and_on2 (Fr.some F10 _ hm) fun u10 F10 => ?_
          clear hm
          have offXl' := offG ws' oH' hwa'
          refine Lex.open N10 fun X10 back10 N10w => ?_
          clear N10
          dsimp only
          walk
          rename Fr g' L' _ _ => F11
          rename News g' L' _ _ => N11
          replace N11 := back10 N11
          clear back10
          refine list_on q' (fun eq' => ?_) fun i' q2 eq' => ?_
          · rw [eq'] at hpb' hrun' hsz'
            have epb := strs_nil hpb'
            rw [epb] at N11
            refine lift (d := 780) (u := 4300) rfl (Nat.le_of_ble_eq_true rfl) rfl (Nat.le_of_ble_eq_true rfl) (gettok_end (sp := false) B' F11 X' T' rfl N11 ok (fun p hp => (offXl' p hp).2) hnf hl hln htx ?_)
            intro h12 tk12 tl12 tn12 ts12 n12 hd12 hn12 F12 N12
            clear F11 N11
            walk
            rename Fr g' L' _ _ => F13
            rename News g' L' _ _ => N13
            first | exact ws_next (n' := f0) (F13) (N13) (by lia) (hJ3 _ _ _ (Ex11.mk ws' hd' ([]) none ([]) np' n12 oH' tl12 tn12 ts12 ⟨rfl, ⟨rfl, rfl, rfl, trivial⟩, hi', .nil, (fun _ h => nomatch h), (fun _ h => nomatch h), (fun _ => rfl), hd12, hn12, hwa', hws', hhd', hlen', hsz', hrun'⟩)) | exact ws_cont (n' := f0) (F13) (N13) (by lia) (hJ3 _ _ _ (Ex11.mk ws' hd' ([]) none ([]) np' n12 oH' tl12 tn12 ts12 ⟨rfl, ⟨rfl, rfl, rfl, trivial⟩, hi', .nil, (fun _ h => nomatch h), (fun _ h => nomatch h), (fun _ => rfl), hd12, hn12, hwa', hws', hhd', hlen', hsz', hrun'⟩))
          · rw [eq'] at hpb' hrun' hsz' hq4'
            refine strs_on hpb' fun t' pbs3 epb hpb3 => ?_
            rw [epb] at N11
            have hpl' := strs_len hpb3
            have hql : q2.length < 100 := by unfold St.size at hsz'; simp at hsz'; lia
            rw [List.length_map] at hpl'
            refine lift (d := 780) (u := 4300) rfl (Nat.le_of_ble_eq_true rfl) rfl (Nat.le_of_ble_eq_true rfl) (gettok_pb B' F11 X' T' rfl N11 ok (fun p hp => (offXl' p hp).1) (by lia) ?_)
            intro h12 tk12 np12 F12 N12
            clear F11 N11
            walk
            rename Fr g' L' _ _ => F13
            rename News g' L' _ _ => N13
            first | exact ws_next (n' := f0) (F13) (N13) (by lia) (hJ3 _ _ _ (Ex11.mk ws' hd' q2 (some i') pbs3 np12 nf oH' tl tn t' ⟨rfl, ⟨rfl, rfl, rfl, trivial⟩, hi', hpb3, (fun a ha => hq4' a (.tail _ ha)), (fun a ha => by cases ha; exact hq4' i' (.head _)), (fun e => nomatch e), htx, hnf, hwa', hws', hhd', hlen', hsz', hrun'⟩)) | exact ws_cont (n' := f0) (F13) (N13) (by lia) (hJ3 _ _ _ (Ex11.mk ws' hd' q2 (some i') pbs3 np12 nf oH' tl tn t' ⟨rfl, ⟨rfl, rfl, rfl, trivial⟩, hi', hpb3, (fun a ha => hq4' a (.tail _ ha)), (fun a ha => by cases ha; exact hq4' i' (.head _)), (fun e => nomatch e), htx, hnf, hwa', hws', hhd', hlen', hsz', hrun'⟩))
    · refine next_range F1 N1 offI (by lia) ?_
      intro h5 F5 N5
      clear F1 N1
      rw [show (k : Int) + 1 = ((k + 1 : Nat) : Int) from rfl, show (4 : Int) - k - 1 = 4 - ((k + 1 : Nat) : Int) from rng_b 4 k] at N5
      dsimp only
      replace N5 := News.swapApp (p := [(I, riObj ((k + 1 : Nat) : Int) (4 - ((k + 1 : Nat) : Int)) 1)]) (q := l.led w ln tl n tn nn pbs np) N5
      refine Lex.open N5 fun X5 back5 N5w => ?_
      clear N5
      walk
      rename Fr g' L' _ _ => F6
      rename News g' L' _ _ => N6
      have hpl := strs_len hpb
      rw [List.length_map, List.length_range] at hpl
      rw [dig_str k (by lia)]
      refine lift (d := 780) (u := 4300) rfl (Nat.le_of_ble_eq_true rfl) rfl (Nat.le_of_ble_eq_true rfl) (push_spec B' F6 X' T' rfl (back5 N6) ok ?_ (by lia) ?_)
      · intro p hp
        rcases List.mem_cons.mp hp with rfl | hp
        · exact fun e => offL _ (.head _) e.symm
        · exact (offXl p hp).1
      intro h7 tk7 np7 F7 N7
      clear F6 N6
      walk
      rename Fr g' L' _ _ => F8
      rename News g' L' _ _ => N8
      first | refine ws_next (n' := n₁) (F8) (N8) (by lia) (hJ2 _ _ _ (Ex3.mk (k + 1) _ np7 ⟨by lia, rfl, ?_, ⟨rfl, rfl, rfl, trivial⟩⟩)) | refine ws_cont (n' := n₁) (F8) (N8) (by lia) (hJ2 _ _ _ (Ex3.mk (k + 1) _ np7 ⟨by lia, rfl, ?_, ⟨rfl, rfl, rfl, trivial⟩⟩))
      rw [List.range_succ, List.map_append]
      exact strs_snoc hpb
  · rw [etd] at hrd hE1
    have hrm : r ∈ rows := by rw [hrd]; simp
    first | refine Exists.elim (hrows r hrm) fun nr1 hr1 => ?_ | refine and_on2 (hrows r hrm) fun nr1 hr1 => ?_
    refine next_list F9 N9 offI2 hli hl9 (by rw [hrd]; simp) ?_
    intro h10 oI10 hli10 F10 N10
    rw [show (rows.map fun r => Value.ref r.1).getD dn.length Value.none = .ref r.1 from by rw [hrd]; simp]
    dsimp only
    have offC : Off C ((I2, oI10) :: (D, listOf (nrw.map fun x => Value.ref x.1).toArray ne) :: (nrw.map wobj ++ bs)) := Off.cons nIC (Off.cons nDC (Off.app (all_wobj (P := fun a => a ≠ C) fun x hx => (hnx x hx).2.1) oC'))
    refine lc_store rfl rfl F10 (News.swap N10) hC offC ?_
    intro oC11 h11 hC11 F11 N11
    clear F9 N9 F10 N10 hl9
    refine wpAny_tests_nil ?_
    refine ifT rfl ?_
    iterate 4 walk1
    refine LCgL.ld_own N11 (.head _) hC11 rfl ?_
    obtain ⟨k0, k1, k2, hr⟩ : ∃ k0 k1 k2, r.2 = [k0, k1, k2] := len3 (h3 r hrm)
    have hri : rows.getD dn.length (0, []) = r := by rw [hrd]; simp
    have hd4 : dn.length < 4 := by rw [← h4, hrd]; simp
    have f0 : k0.2.2 = 0 := by
      have := hJ dn.length hd4 0 (by decide)
      rw [hri, hr] at this; exact this
    have f1 : k1.2.2 = 1 := by
      have := hJ dn.length hd4 1 (by decide)
      rw [hri, hr] at this; exact this
    have f2 : k2.2.2 = 2 := by
      have := hJ dn.length hd4 2 (by decide)
      rw [hri, hr] at this; exact this
    have hkk := hK r hrm
    rw [hr] at hr1 hkk
    have hup : ∀ p ∈ rest, p ∈ (C, oC11) :: (I2, oI10) :: (D, listOf (nrw.map fun x => Value.ref x.1).toArray ne) :: (nrw.map wobj ++ bs) := fun p hp => .tail _ (.tail _ (.tail _ (List.mem_append_right _ (mr p hp))))
    have m0 : KeyIn rest adr k0 := hkk k0 (.head _)
    have m1 : KeyIn rest adr k1 := hkk k1 (.tail _ (.head _))
    have m2 : KeyIn rest adr k2 := hkk k2 (.tail _ (.tail _ (.head _)))
    walk1
    refine sorted3 (a := (adr k0, k0)) (b := (adr k1, k1)) (c := (adr k2, k2)) F11 N11 (N11.isList (hup _ hr1)) (m0.sub hup) (m1.sub hup) (m2.sub hup) (fun e => ?_) (fun e => ?_) (fun e => ?_) ?_
    · have e : k0 = k1 := e
      rw [e] at f0; lia
    · have e : k0 = k2 := e
      rw [e] at f0; lia
    · have e : k1 = k2 := e
      rw [e] at f1; lia
    intro D4 n4 h12 F12 N12 lt12
    clear N11 F11
    have hp3 : ∀ i ∈ perm3 (keyLt k0 k1) (keyLt k0 k2) (keyLt k1 k2), i = 0 ∨ i = 1 ∨ i = 2 := fun i hi => by
      have : i < 3 := of_decide_eq_true (List.all_eq_true.mp (perm3_lt _ _ _) i hi)
      lia
    generalize hps : (perm3 (keyLt (adr k0, k0).2 (adr k1, k1).2) (keyLt (adr k0, k0).2 (adr k2, k2).2) (keyLt (adr k1, k1).2 (adr k2, k2).2)).map (fun i => [(adr k0, k0), (adr k1, k1), (adr k2, k2)].getD i (0, (0, 0, 0))) = ps at N12
    have hp2 : ps.map (·.2) = srt [k0, k1, k2] := by
      rw [← hps, List.map_map]
      show _ = sort3 k0 k1 k2
      unfold sort3
      refine List.map_congr_left fun i hi => ?_
      rcases hp3 i hi with rfl | rfl | rfl <;> rfl
    have hp4 : ∀ q ∈ ps, PairIn rest q := fun q hq => by
      rw [← hps] at hq
      refine goal_G fun GG hGG => ?_
      obtain ⟨i, hi, rfl⟩ := List.mem_map.mp hq
      refine hGG ?_
      clear hGG GG
      rcases hp3 i hi with rfl | rfl | rfl
      · exact m0
      · exact m1
      · exact m2
    have o4 : ∀ p ∈ (C, oC11) :: (I2, oI10) :: (D, listOf (nrw.map fun x => Value.ref x.1).toArray ne) :: (nrw.map wobj ++ bs), D4 ≠ p.1 := fun p hp => Nat.ne_of_gt (lt12 p hp)
    have nC4 : D4 ≠ C := o4 (C, _) (.head _)
    have nI4 : D4 ≠ I2 := o4 (I2, _) (.tail _ (.head _))
    have nD4 : D4 ≠ D := o4 (D, _) (.tail _ (.tail _ (.head _)))
    have nL4 : L' + 1 < D4 := lt12 _ (.tail _ (.tail _ (.tail _ (List.mem_append_right _ mc))))
    have N13 := News.sub N12 (r := (D, listOf (nrw.map fun x => Value.ref x.1).toArray ne) :: (I2, oI10) :: (C, oC11) :: ((nrw ++ [(D4, ps, n4)]).map wobj ++ bs)) (fun p hp => by
      simp only [List.map_append, List.map_cons, List.map_nil, List.mem_cons, List.mem_append, List.not_mem_nil, or_false] at hp ⊢
      rcases hp with h | h | h | (h | h) | h
      · simp [h]
      · simp [h]
      · simp [h]
      · simp [h]
      · exact .inl h
      · simp [h])
    refine lc_append F12 N13 (Off.cons nID (Off.cons nCD (Off.app (all_wobj (P := fun a => a ≠ D) fun x hx => (List.mem_append.mp hx).elim (fun h => (hnx x h).2.2.1) fun h => List.mem_singleton.mp h ▸ nD4) oD'))) ?_ ?_
    · have q4 : nrw.length = dn.length := by
        have := congrArg List.length hnl
        rw [List.length_map, List.length_map] at this
        exact this
      rw [List.length_map]
      lia
    intro h14 F14 N14
    clear F12 N12 N13
    have e14 : ((nrw.map fun x => Value.ref x.1) ++ [Value.ref D4]) = ((nrw ++ [(D4, ps, n4)]).map fun x => Value.ref x.1) := by simp
    rw [e14] at N14
    refine lcs (n' := td'.length) (F14) (News.rot N14) (by rw [hE1]; simp) (hJ1 _ _ (Ex7.mk (dn ++ [r]) td' oC11 _ oI10 (nrw ++ [(D4, ps, n4)]) (ne + 1) ⟨by rw [hrd]; simp, rfl, rfl, by simpa using hli10, hC11, ?_, ?_, ?_, ?_⟩))
    · intro x hx
      rcases List.mem_append.mp hx with hx | hx
      · exact hnrw x hx
      · rw [List.mem_singleton.mp hx]; exact hp4
    · rw [List.map_append, List.map_append, hnl]
      show _ ++ [ps.map (·.2)] = _ ++ [srt r.2]
      rw [hp2, hr]
    · intro x hx
      rcases List.mem_append.mp hx with hx | hx
      · exact hnx x hx
      · rw [List.mem_singleton.mp hx]; exact ⟨nI4, nC4, nD4, nL4⟩
    · rw [List.map_append]
      refine List.nodup_append.mpr ⟨hnd, by simp, ?_⟩
      intro a ha b hb
      refine goal_G fun GG hGG => ?_
      obtain ⟨x, hx, rfl⟩ := List.mem_map.mp ha
      refine hGG ?_
      clear hGG GG
      simp at hb
      subst hb
      exact fun e => o4 (wobj x) (.tail _ (.tail _ (.tail _ (List.mem_append_left _ (List.mem_map_of_mem hx))))) e.symm
end
section
open PyProof.Rows.LCg (NsObj ns_obj)

noncomputable def ringD (a m : Nat) : List Nat := match a with
  | 0 => [8, m, 0]
  | 1 => [8 - m, 8, 0]
  | 2 => [0, 8, m]
  | 3 => [0, 8 - m, 8]
  | 4 => [m, 0, 8]
  | _ => [8, 0, 8 - m]
/-- the three signs of a word -/
noncomputable def wordOf (pl g : Nat) : List Nat := (ringD (pl / 8) (pl % 8)).map fun x => 48 + (x + g)

theorem join_flat : ∀ ls : List (List Nat), Txt.join "" (ls.map fun l => (⟨l.toArray⟩ : Str)) = ⟨ls.flatten.toArray⟩ := by
  intro ls
  show Builtin.Str.glued "" _ = _
  rw [StrLaws.glued_eq_join]
  induction ls with
  | nil => rfl
  | cons x r ih =>
    cases r with
    | nil => simp [Str.join]
    | cons y r =>
      show (⟨x.toArray⟩ : Str) ++ ("" : Str) ++ Str.join "" ((y :: r).map fun l => (⟨l.toArray⟩ : Str)) = _
      rw [ih, show ("" : Str) = ⟨([] : List Nat).toArray⟩ from rfl, app_str, app_str, List.append_nil]
      rfl
theorem word_spec {w : World} {gd : Option (List Code)} {cn : Str} {cs : Scope} {a : Addr} {ccd : Value} {cl : List (Str × Addr)} {outer : List Env} {A₀ : Around} {base h₀ : Heap} {L : Addr} {m : Str → Option Value} {rest : List (Addr × Obj)} {s : Shared} {Q E : Value → Shared → Prop} {p : Program} {loose : List Str} {mean : ExcName → Option Value} {mg mb : Str → Option Value} {pl g : Nat} {t1 t2 : Tok}
    (B : Below A₀ base outer h₀) (F : Fr h₀ L s.heap m) (X₀ : (Mine.hd.heap_1 w.params).In h₀) (T : Top p loose mean mg mb h₀) (hk : cs.kind = .function) (N : News h₀ L s.heap rest) (hpl : pl < 48) (hg : g < 2)
    (h : ∀ h' tk' ts, Fr h₀ L h' m → News h₀ L h' rest → Q (.str ⟨(wordOf pl g).toArray⟩ ts) { s with heap := h', toks := tk' }) :
    wpAny (model PySem.Challenge.rw_pg0112_01.row.prog w) (Ar 700 4000 (envX cn cs L a ccd cl :: outer) gd) (call (.ref 108) [.int pl t1, .int g t2]) Q E s := by
  revert X₀; k_fill; intro X₀
  refine wpAny_call ?_
  refine code_defC B F X₀ N T rfl rfl hk (by k_is) (by k_is) (by k_room) (BindsTo.of_eq rfl) rfl (by decide +kernel) ?_ rfl rfl rfl
  intro g' L' h' tk' cells' FG F' N' Y' B' X' T' l1
  try dsimp only
  try k_fold
  refine goal_G fun GG hGG => ?_
  obtain ⟨o1, hE, d1⟩ := CellsAre.one Y'
  refine hGG ?_
  clear hGG GG
  subst hE
  clear Y'
  simp only [List.cons_append, List.nil_append] at N'
  have e1 : o1.data = .cell (some (.int g t2)) := d1
  first | refine Exists.elim (Fr.some F' [("place", .int pl t1)] ⟨rfl, trivial⟩) fun u F1 => ?_ | refine and_on2 (Fr.some F' [("place", .int pl t1)] ⟨rfl, trivial⟩) fun u F1 => ?_
  clear F' d1
  walk
  rename Fr g' L' _ _ => F2
  rename News g' L' _ _ => N2
  have ed : ((pl : Int)).fdiv 8 = ((pl / 8 : Nat) : Int) := by rw [Int.fdiv_eq_ediv_of_nonneg _ (by decide)]; rfl
  have em : ((pl : Int)).fmod 8 = ((pl % 8 : Nat) : Int) := by rw [Int.fmod_eq_emod_of_nonneg _ (by decide)]; rfl
  have ha6 : pl / 8 < 6 := by lia
  have hm8 : pl % 8 < 8 := by lia
  simp only [ed, em] at F2 N2
  generalize hpa : pl / 8 = a8 at F2 N2 ha6
  generalize hpm : pl % 8 = m8 at F2 N2 hm8
  rw [show (8 : Int) - (m8 : Int) = ((8 - m8 : Nat) : Int) from by lia] at N2
  obtain ⟨bs, R, rs, nR, N3, ⟨u3, ts, F3⟩, mR, hrs, mo, mrest, hkey⟩ : ∃ (bs : List (Addr × Obj)) (R : Addr) (rs : List Value) (nR : Nat), News g' L' _ bs ∧ (∃ u' ts, Fr g' L' _ (kstB u' [("ring", .ref R), ("sixth", .int a8 ts)])) ∧ (R, listOf rs.toArray nR) ∈ bs ∧ rs.length = 6 ∧ (L' + 1, o1) ∈ bs ∧ (∀ p ∈ rest, p ∈ bs) ∧
      ∀ k, k < 6 → ∃ T o t1 t2 t3, rs.getD k .none = .ref T ∧ (T, o) ∈ bs ∧ o.cls = .type "tuple" ∧ ∃ n, o.data = .seq #[.int ((ringD k m8).getD 0 0 : Nat) t1, .int ((ringD k m8).getD 1 0 : Nat) t2, .int ((ringD k m8).getD 2 0 : Nat) t3] n := by
    refine ⟨_, _, [_, _, _, _, _, _], 0, N2, ?_, .head _, rfl, .tail _ (.tail _ (.tail _ (.tail _ (.tail _ (.tail _ (.tail _ (.tail _ (.head _)))))))), fun p hp => .tail _ (.tail _ (.tail _ (.tail _ (.tail _ (.tail _ (.tail _ (.tail _ (.tail _ hp)))))))), ?_⟩
    · first | refine Exists.elim (Fr.some F2 [("ring", .ref _), ("sixth", .int a8 _)] ⟨rfl, rfl, trivial⟩) fun u' h => ?_ | refine and_on2 (Fr.some F2 [("ring", .ref _), ("sixth", .int a8 _)] ⟨rfl, rfl, trivial⟩) fun u' h => ?_
      exact ⟨u', _, h⟩
    · intro k hk
      match k, hk with
      | 0, _ => exact ⟨_, _, _, _, _, rfl, .tail _ (.tail _ (.tail _ (.tail _ (.tail _ (.tail _ (.head _)))))), rfl, _, rfl⟩
      | 1, _ => exact ⟨_, _, _, _, _, rfl, .tail _ (.tail _ (.tail _ (.tail _ (.tail _ (.head _))))), rfl, _, rfl⟩
      | 2, _ => exact ⟨_, _, _, _, _, rfl, .tail _ (.tail _ (.tail _ (.tail _ (.head _)))), rfl, _, rfl⟩
      | 3, _ => exact ⟨_, _, _, _, _, rfl, .tail _ (.tail _ (.tail _ (.head _))), rfl, _, rfl⟩
      | 4, _ => exact ⟨_, _, _, _, _, rfl, .tail _ (.tail _ (.head _)), rfl, _, rfl⟩
      | 5, _ => exact ⟨_, _, _, _, _, rfl, .tail _ (.head _), rfl, _, rfl⟩
  clear N2 F2
  refine LC_eval (h₀ := g') (L := L') (m := kstB u3 [("ring", .ref R), ("sixth", .int a8 ts)]) (by rfl) (by decide) rfl (by decide) ?_
  walk
  refine item_gen (N3.isList mR) (by lia) (by lia) (by lia) ?_
  refine goal_G fun GG hGG => ?_
  obtain ⟨T, oT, y1, y2, y3, eT, mT, cT, nT, dT⟩ := hkey a8 ha6
  refine hGG ?_
  clear hGG GG
  rw [show (a8 : Int).toNat = a8 from rfl, eT]
  refine lc_src_tuple (vs := [.int ((ringD a8 m8).getD 0 0 : Nat) y1, .int ((ringD a8 m8).getD 1 0 : Nat) y2, .int ((ringD a8 m8).getD 2 0 : Nat) y3]) F3 N3 ⟨oT, (N3 _ mT).1, cT, nT, dT⟩ ?_
  rintro I oI D C oC h4 tk4 hh F4 N4 hti hC nCD nCI nDI offCD offI
  have oCb : Off C bs := fun p hp => (offCD p hp).1
  have oDb : Off D bs := fun p hp => (offCD p hp).2
  refine lc_loop_G (fun n news₁ => Ex6 fun (i : Nat) (oC : Obj) (mc : Str → Option Value) (oI : Obj) (us : List Value) (ne : Nat) => i + n = 3 ∧ news₁ = ((I, oI) :: (C, oC) :: (D, listOf us.toArray ne) :: bs) ∧ isTi oI T i ∧ NsObj oC mc ∧ StrsAre us (((ringD a8 m8).take i).map fun x => ⟨#[48 + (x + g)]⟩)) (n₀ := 3)
    F4 (News.rot' N4) (Ex6.mk 0 oC _ oI ([]) 0 ⟨rfl, rfl, hti, hC, .nil⟩) ?_
  clear F4 N4 hti hC F3 N3
  intro J1 R1 hJ1 hR1 n news₁ h5 tk5 F5 N5 hJJ
  refine hJJ _ fun i oC mcc oI us ne hAA => ?_
  refine and_on5 hAA fun hin hE1 hti hC hus => ?_
  clear hAA hJJ
  refine goal_G fun GG hGG => ?_
  subst hE1
  refine hGG ?_
  clear hGG GG
  have hl5 : IsTup h5 T [.int ((ringD a8 m8).getD 0 0 : Nat) y1, .int ((ringD a8 m8).getD 1 0 : Nat) y2, .int ((ringD a8 m8).getD 2 0 : Nat) y3].toArray := ⟨oT, (N5 _ (.tail _ (.tail _ (.tail _ mT)))).1, cT, nT, dT⟩
  have oI' : Off I ((C, oC) :: (D, listOf us.toArray ne) :: bs) := Off.cons nCI (Off.cons nDI offI)
  have hr3 : (ringD a8 m8).length = 3 := by unfold ringD; split <;> rfl
  rcases n with _ | n
  · have hi3 : i = 3 := by lia
    subst hi3
    refine next_tuple_end rfl F5 N5 oI' hti hl5 (by simp) ?_
    intro h6 F6 N6
    refine hR1 _ _ (lcd (F6) (News.swap N6) (hC) (fun p hp => offCD p hp) (nCD) ?_)
    clear F5 N5 F6 N6
    intro h7 tk7 F7 N7 o7
    walk
    rw [List.take_of_length_le (by lia)] at hus
    refine goal_G fun GG hGG => ?_
    obtain ⟨x0, x1, x2, hx⟩ := len3 hr3
    refine hGG ?_
    clear hGG GG
    refine join_list (N7.isList (.head _)) hus (by rw [hx]; simp [Str.length]; show 3 + 3 * 0 ≤ 16777216; decide) ?_
    intro tj kj
    have ew : (ringD a8 m8).map (fun x => (⟨#[48 + (x + g)]⟩ : Str)) = ((ringD a8 m8).map fun x => [48 + (x + g)]).map fun l => (⟨l.toArray⟩ : Str) := by rw [List.map_map]; rfl
    have ef : (((ringD a8 m8).map fun x => [48 + (x + g)]).flatten) = wordOf pl g := by
      unfold wordOf
      rw [hpa, hpm, hx]; rfl
    rw [ew, join_flat, ef]
    have mrD : ∀ p ∈ rest, p ∈ (D, listOf us.toArray ne) :: bs := fun p hp => .tail _ (mrest p hp)
    walk
    rename News h₀ L _ _ => NE
    exact h _ _ _ (by assumption) (News.sub NE mrD)
  · refine next_tuple F5 N5 oI' hti hl5 (by simp; lia) ?_
    intro h6 oI6 hti6 F6 N6
    have hv : ∃ ty, [Value.int ((ringD a8 m8).getD 0 0 : Nat) y1, .int ((ringD a8 m8).getD 1 0 : Nat) y2, .int ((ringD a8 m8).getD 2 0 : Nat) y3].getD i .none = .int ((ringD a8 m8).getD i 0 : Nat) ty := by
      have : i = 0 ∨ i = 1 ∨ i = 2 := by lia
      rcases this with rfl | rfl | rfl <;> exact ⟨_, rfl⟩
    first | refine Exists.elim (hv) fun ty hv => ?_ | refine and_on2 (hv) fun ty hv => ?_
    rw [hv]
    dsimp only
    refine lc_store rfl rfl F6 (News.swap N6) hC (Off.cons (Ne.symm nCI) (Off.cons (Ne.symm nCD) oCb)) ?_
    intro oC8 h8 hC8 F8 N8
    clear F5 N5 F6 N6
    refine wpAny_tests_nil ?_
    refine ifT rfl ?_
    iterate 10 (try (walk1; try dsimp only))
    refine LCgL.ld_own N8 (.head _) hC8 rfl ?_
    refine ld_cellC N8 rfl (.tail _ (.tail _ (.tail _ mo))) e1 ?_
    generalize hy : (ringD a8 m8).getD i 0 = y
    have hy8 : y ≤ 8 := by
      rw [← hy]
      have : i = 0 ∨ i = 1 ∨ i = 2 := by lia
      unfold ringD
      split <;> rcases this with rfl | rfl | rfl <;> simp <;> lia
    iterate 2 (try (walk1; try dsimp only))
    rw [show (y : Int) + (g : Int) = ((y + g : Nat) : Int) from by lia]
    iterate 2 (try (walk1; try dsimp only))
    rw [dig_str (y + g) (by lia)]
    have hul : us.length ≤ 3 := by
      have := strs_len hus
      rw [List.length_map, List.length_take] at this
      lia
    refine lc_append F8 (News.rot' N8) (Off.cons nCD (Off.cons (Ne.symm nDI) oDb)) (by lia) ?_
    intro h9 F9 N9
    refine lcs (n' := n) (F9) (News.swap (News.rot N9)) (by lia) (hJ1 _ _ (Ex6.mk (i + 1) oC8 _ oI6 _ (ne + 1) ⟨by lia, rfl, hti6, hC8, ?_⟩))
    have hil : i < (ringD a8 m8).length := by lia
    rw [List.take_succ_eq_append_getElem hil, List.map_append]
    have hy2 : (ringD a8 m8)[i] = y := by rw [← hy]; simp [hil]
    rw [hy2]
    exact strs_snoc hus
end
section
open PyProof.Rows.LCg (NsObj ns_obj)

/-- a word as it stands in the text -/
noncomputable def spelled (ds : List Nat) : Nat → List Nat
  | 0 => ds ++ [10]
  | 1 => 34 :: (ds ++ [34, 32])
  | _ => ds.flatMap (fun d => [92, d]) ++ [9]
theorem spelled_spec {w : World} {gd : Option (List Code)} {cn : Str} {cs : Scope} {a : Addr} {ccd : Value} {cl : List (Str × Addr)} {outer : List Env} {A₀ : Around} {base h₀ : Heap} {L : Addr} {m : Str → Option Value} {rest : List (Addr × Obj)} {s : Shared} {Q E : Value → Shared → Prop} {p : Program} {loose : List Str} {mean : ExcName → Option Value} {mg mb : Str → Option Value} {ds : List Nat} {way : Nat} {t1 t2 : Tok}
    (B : Below A₀ base outer h₀) (F : Fr h₀ L s.heap m) (X₀ : (Mine.hd.heap_1 w.params).In h₀) (T : Top p loose mean mg mb h₀) (hk : cs.kind = .function) (N : News h₀ L s.heap rest) (hd3 : ds.length = 3) (hd : ∀ d ∈ ds, isDig d)
    (h : ∀ h' tk' ts, Fr h₀ L h' m → News h₀ L h' rest → Q (.str ⟨(spelled ds way).toArray⟩ ts) { s with heap := h', toks := tk' }) :
    wpAny (model PySem.Challenge.rw_pg0112_01.row.prog w) (Ar 700 4000 (envX cn cs L a ccd cl :: outer) gd) (call (.ref 103) [.str ⟨ds.toArray⟩ t1, .int way t2]) Q E s := by
  revert X₀; k_fill; intro X₀
  refine wpAny_call ?_
  k_dflt ktr_enter
  rename_i g' L' h' FG F' N' B' X' T'
  first | refine Exists.elim (Fr.some F' [("word", .str ⟨ds.toArray⟩ t1), ("way", .int way t2)] ⟨rfl, rfl, trivial⟩) fun u F1 => ?_ | refine and_on2 (Fr.some F' [("word", .str ⟨ds.toArray⟩ t1), ("way", .int way t2)] ⟨rfl, rfl, trivial⟩) fun u F1 => ?_
  clear F'
  have hsz : (⟨ds.toArray⟩ : Str).length = 3 := by simp [Str.length, hd3]
  walk
  refine wpAny_truthy_bool ?_
  match way, h with
  | 0, h =>
    refine ifT (by rfl) ?_
    walk
    rw [show ("\n" : Str) = ⟨[10].toArray⟩ from rfl, app_str]
    exact h _ _ _ (by assumption) (by assumption)
  | 1, h =>
    refine ifF (by decide) ?_
    walk
    refine wpAny_truthy_bool ?_
    refine ifT (by rfl) ?_
    walk
    rw [show ("\"" : Str) = ⟨[34].toArray⟩ from rfl, show ("\" " : Str) = ⟨[34, 32].toArray⟩ from rfl, app_str, app_str]
    have e : [34] ++ ds ++ [34, 32] = spelled ds 1 := by simp [spelled]
    rw [e]
    exact h _ _ _ (by assumption) (by assumption)
  | way + 2, h =>
    refine ifF (by simp; omega) ?_
    walk
    refine wpAny_truthy_bool ?_
    refine ifF (by simp; omega) ?_
    walk
    rename Fr g' L' _ _ => F2
    rename News g' L' _ _ => N2
    refine LC_eval (h₀ := g') (L := L') (m := kstB u [("word", .str ⟨ds.toArray⟩ t1), ("way", .int ((way + 2 : Nat) : Int) t2)]) (by rfl) (by decide) rfl (by decide) ?_
    walk
    refine lc_src_str F2 N2 (by
      rw [← Array.all_toList]
      refine List.all_eq_true.mpr fun c hc => ?_
      have := hd c hc
      simp; omega) ?_
    rintro I oI D C oC h4 tk4 hh F4 N4 hsi hC nCD nCI nDI offCD offI
    have oCb : Off C rest := fun p hp => (offCD p hp).1
    have oDb : Off D rest := fun p hp => (offCD p hp).2
    refine lc_loop_G (fun n news₁ => Ex6 fun (i : Nat) (oC : Obj) (mc : Str → Option Value) (oI : Obj) (us : List Value) (ne : Nat) => i + n = 3 ∧ news₁ = ((I, oI) :: (C, oC) :: (D, listOf us.toArray ne) :: rest) ∧ isSi oI ⟨ds.toArray⟩ t1 i ∧ NsObj oC mc ∧ StrsAre us ((ds.take i).map fun x => ⟨[92, x].toArray⟩)) (n₀ := 3)
      F4 (News.rot' N4) (Ex6.mk 0 oC _ oI ([]) 0 ⟨rfl, rfl, hsi, hC, .nil⟩) ?_
    clear F4 N4 hsi hC F2 N2
    intro J1 R1 hJ1 hR1 n news₁ h5 tk5 F5 N5 hJJ
    refine hJJ _ fun i oC mcc oI us ne hAA => ?_
    refine and_on5 hAA fun hin hE1 hsi hC hus => ?_
    clear hAA hJJ
    refine goal_G fun GG hGG => ?_
    subst hE1
    refine hGG ?_
    clear hGG GG
    have oI' : Off I ((C, oC) :: (D, listOf us.toArray ne) :: rest) := Off.cons nCI (Off.cons nDI offI)
    rcases n with _ | n
    · have hi3 : i = 3 := by omega
      subst hi3
      refine next_str_end rfl F5 N5 oI' hsi (by simp [hd3]) ?_
      intro h6 F6 N6
      refine hR1 _ _ (lcd (F6) (News.swap N6) (hC) (fun p hp => offCD p hp) (nCD) ?_)
      clear F5 N5 F6 N6
      intro h7 tk7 F7 N7 o7
      walk
      rw [List.take_of_length_le (by omega)] at hus
      refine goal_G fun GG hGG => ?_
      obtain ⟨x0, x1, x2, hx⟩ := len3 hd3
      refine hGG ?_
      clear hGG GG
      refine join_list (N7.isList (.head _)) hus (by rw [hx]; simp [Str.length]; show 6 + 3 * 0 ≤ 16777216; decide) ?_
      intro tj kj
      have ew : ds.map (fun x => (⟨[92, x].toArray⟩ : Str)) = (ds.map fun x => [92, x]).map fun l => (⟨l.toArray⟩ : Str) := by rw [List.map_map]; rfl
      rw [ew, join_flat]
      walk
      refine add_str ?_ (by rw [sizeLine_eq, hx]; simp [Str.length]; show 6 + 1 ≤ 16777216; decide)
      intro t' tk'
      rw [show ("\t" : Str) = ⟨[9].toArray⟩ from rfl, app_str, show (ds.map fun x => [92, x]).flatten ++ [9] = spelled ds (way + 2) from rfl]
      walk
      rename News h₀ L _ _ => NE
      exact h _ _ _ (by assumption) (News.drop1 NE)
    · have hil : i < ds.length := by omega
      refine next_str (c := ds[i]) F5 N5 oI' hsi (by simp [hil]) ?_
      intro h6 oI6 hsi6 F6 N6
      dsimp only
      refine lc_store rfl rfl F6 (News.swap N6) hC (Off.cons (Ne.symm nCI) (Off.cons (Ne.symm nCD) oCb)) ?_
      intro oC8 h8 hC8 F8 N8
      clear F5 N5 F6 N6
      refine wpAny_tests_nil ?_
      refine ifT rfl ?_
      iterate 2 (try (walk1; try dsimp only))
      refine LCgL.ld_own N8 (.head _) hC8 rfl ?_
      refine add_str ?_ (by rw [sizeLine_eq]; show 1 + 1 ≤ _; decide)
      intro t' tk'
      rw [show ("\\" : Str) = ⟨[92].toArray⟩ from rfl, show (⟨#[ds[i]]⟩ : Str) = ⟨[ds[i]].toArray⟩ from rfl, app_str]
      have hul : us.length ≤ 3 := by
        have := strs_len hus
        rw [List.length_map, List.length_take] at this
        omega
      refine lc_append F8 (News.rot' N8) (Off.cons nCD (Off.cons (Ne.symm nDI) oDb)) (by omega) ?_
      intro h9 F9 N9
      refine lcs (n' := n) (F9) (News.swap (News.rot N9)) (by omega) (hJ1 _ _ (Ex6.mk (i + 1) oC8 _ oI6 _ (ne + 1) ⟨by omega, rfl, hsi6, hC8, ?_⟩))
      rw [List.take_succ_eq_append_getElem hil, List.map_append]
      exact strs_snoc hus
end
section
noncomputable def max3 (a b c : Int) : Int := if b > a then (if c > b then c else b) else (if c > a then c else a)
noncomputable def min3 (a b c : Int) : Int := if b < a then (if c < b then c else b) else (if c < a then c else a)
theorem max3_tok (a b c : Int) (t u x : Tok) : ∃ tm, (if b > a then (if c > b then Value.int c x else .int b u) else (if c > a then .int c x else .int a t)) = .int (max3 a b c) tm := by
  unfold max3
  split <;> split <;> exact ⟨_, rfl⟩
theorem min3_tok (a b c : Int) (t u x : Tok) : ∃ tm, (if b < a then (if c < b then Value.int c x else .int b u) else (if c < a then .int c x else .int a t)) = .int (min3 a b c) tm := by
  unfold min3
  split <;> split <;> exact ⟨_, rfl⟩
noncomputable def qF (a b : Int) : UInt64 := Float64.ofFrac (decide (a < 0) != decide (b < 0)) a.natAbs b.natAbs
section
variable {prog : Program} {w : World} {A : Around} {E : Value → Shared → Prop} {s : Shared}
theorem div_q {a b : Int} {t u : Tok} {Q : Value → Shared → Prop} (hA : A.handled = none) (hb : b ≠ 0) (ha : a.natAbs < 100) (h : Q (.float (qF a b) s.toks) { s with toks := s.toks + 1 }) :
    wpAny (model prog w) A (binaryOp .Div (.int a t) (.int b u)) Q E s :=
  Flt.div_ii_fits hA (Nat.lt_of_lt_of_le ha (by decide)) (fun e => absurd e hb) (fun _ _ => h)
end
/-- the hue as the code reckons it -/
noncomputable def hueF (r g b M : Int) : UInt64 := (Float64.divmod (Float64.div (if r = M then Float64.sub (qF (M - b) 8) (qF (M - g) 8) else if g = M then Float64.sub (Float64.add 4611686018427387904 (qF (M - r) 8)) (qF (M - b) 8) else Float64.sub (Float64.add 4616189618054758400 (qF (M - g) 8)) (qF (M - r) 8)) 4618441417868443648) 4607182418800017408).snd
theorem rgb_spec {w : World} {gd : Option (List Code)} {cn : Str} {cs : Scope} {a : Addr} {ccd : Value} {cl : List (Str × Addr)} {outer : List Env} {A₀ : Around} {base h₀ : Heap} {L : Addr} {m : Str → Option Value} {rest : List (Addr × Obj)} {s : Shared} {Q E : Value → Shared → Prop} {p : Program} {loose : List Str} {mean : ExcName → Option Value} {mg mb : Str → Option Value} {r g b : Nat} {t1 t2 t3 : Tok}
    (B : Below A₀ base outer h₀) (F : Fr h₀ L s.heap m) (X₀ : (Mine.hd.heap_1 w.params).In h₀) (T : Top p loose mean mg mb h₀) (hk : cs.kind = .function) (N : News h₀ L s.heap rest) (hr : r ≤ 9) (hg : g ≤ 9) (hb : b ≤ 9) {M : Nat} (hM : max3 r g b = M) (hm : min3 r g b = (M : Int) - 8) (hM8 : 8 ≤ M ∧ M ≤ 9)
    (h : ∀ h' tk' D th ts tm sf, Fr h₀ L h' m → News h₀ L h' ((D, { cls := .type "tuple", data := .seq #[.float (hueF r g b M) th, .float sf ts, .int M tm] }) :: rest) → (∀ p ∈ rest, p.1 < D) → Q (.ref D) { s with heap := h', toks := tk' }) :
    wpAny (model PySem.Challenge.rw_pg0112_01.row.prog w) (Ar 780 4300 (envX cn cs L a ccd cl :: outer) gd) (call (.ref 21) [.int r t1, .int g t2, .int b t3]) Q E s := by
  revert X₀; k_fill; intro X₀
  refine wpAny_call ?_
  k_dflt ktr_enter
  rename_i g' L' h' FG F' N' B' X' T'
  first | refine Exists.elim (Fr.some F' [("r", .int r t1), ("g", .int g t2), ("b", .int b t3)] ⟨rfl, rfl, rfl, trivial⟩) fun u F1 => ?_ | refine and_on2 (Fr.some F' [("r", .int r t1), ("g", .int g t2), ("b", .int b t3)] ⟨rfl, rfl, rfl, trivial⟩) fun u F1 => ?_
  clear F'
  walk
  refine max_three_ints rfl ?_
  intro h2 tk2 hk2
  first | refine Exists.elim (max3_tok r g b t1 t2 t3) fun tm em => ?_ | refine and_on2 (max3_tok r g b t1 t2 t3) fun tm em => ?_
  rw [em, hM]
  replace N' := N'.grown hk2
  have F2 := F1.keeps hk2
  clear F1
  walk
  rename Fr g' L' _ _ => F3
  rename News g' L' _ _ => N3
  refine min_three_ints rfl ?_
  intro h4 tk4 hk4
  first | refine Exists.elim (min3_tok r g b t1 t2 t3) fun tn en => ?_ | refine and_on2 (min3_tok r g b t1 t2 t3) fun tn en => ?_
  rw [en, hm]
  replace N3 := N3.grown hk4
  have F4 := F3.keeps hk4
  clear F3
  walk
  refine wpAny_truthy_bool ?_
  refine ifF (by simp; lia) ?_
  rename Fr g' L' _ _ => F5
  rename News g' L' _ _ => N5
  rw [show (M : Int) - ((M : Int) - 8) = 8 from by lia] at F5
  first | refine Exists.elim (Fr.some F5 [("r", .int r t1), ("g", .int g t2), ("b", .int b t3), ("maxc", .int M tm), ("rangec", .int 8 _), ("v", .int M tm)] ⟨rfl, rfl, rfl, rfl, rfl, rfl, trivial⟩) fun u5 F5 => ?_ | refine and_on2 (Fr.some F5 [("r", .int r t1), ("g", .int g t2), ("b", .int b t3), ("maxc", .int M tm), ("rangec", .int 8 _), ("v", .int M tm)] ⟨rfl, rfl, rfl, rfl, rfl, rfl, trivial⟩) fun u5 F5 => ?_
  walk
  refine wpAny_truthy_bool ?_
  by_cases h1 : (r : Int) = (M : Int)
  · refine ifT (by simp; lia) ?_
    walk
    rename News h₀ L _ _ => NE
    refine h _ _ _ _ _ _ _ (by assumption) (by unfold hueF; rw [if_pos h1]; exact NE) (by assumption)
  · refine ifF (by simp; lia) ?_
    walk
    refine wpAny_truthy_bool ?_
    by_cases h2 : (g : Int) = (M : Int)
    · refine ifT (by simp; lia) ?_
      walk
      rename News h₀ L _ _ => NE
      refine h _ _ _ _ _ _ _ (by assumption) (by unfold hueF; rw [if_neg h1, if_pos h2]; exact NE) (by assumption)
    · refine ifF (by simp; lia) ?_
      walk
      rename News h₀ L _ _ => NE
      refine h _ _ _ _ _ _ _ (by assumption) (by unfold hueF; rw [if_neg h1, if_neg h2]; exact NE) (by assumption)
end
section
theorem ring_tab : ∀ pl, pl < 48 → ((ringD (pl / 8) (pl % 8)).getD 0 0 ≤ 8 ∧ (ringD (pl / 8) (pl % 8)).getD 1 0 ≤ 8 ∧ (ringD (pl / 8) (pl % 8)).getD 2 0 ≤ 8 ∧ max3 ((ringD (pl / 8) (pl % 8)).getD 0 0 : Nat) ((ringD (pl / 8) (pl % 8)).getD 1 0 : Nat) ((ringD (pl / 8) (pl % 8)).getD 2 0 : Nat) = 8 ∧ min3 ((ringD (pl / 8) (pl % 8)).getD 0 0 : Nat) ((ringD (pl / 8) (pl % 8)).getD 1 0 : Nat) ((ringD (pl / 8) (pl % 8)).getD 2 0 : Nat) = 0) := by
  decide +kernel
noncomputable def hue1 (pl g : Nat) : UInt64 := Float64.add (Float64.mul (Float64.ofInt 48) (hueF (((ringD (pl / 8) (pl % 8)).getD 0 0 + g : Nat) : Int) (((ringD (pl / 8) (pl % 8)).getD 1 0 + g : Nat) : Int) (((ringD (pl / 8) (pl % 8)).getD 2 0 + g : Nat) : Int) ((8 + g : Nat) : Int))) 4602678819172646912
theorem hue_tab0 : ∀ pl, pl < 48 → ∀ g, g < 2 → (Float64.isFinite (hue1 pl g) = true ∧ Flt.toInt Float64.truncOf (hue1 pl g) = pl) := by
  decide +kernel
theorem hue_tab : ∀ pl g, pl < 48 → g < 2 → (Float64.isFinite (hue1 pl g) = true ∧ Flt.toInt Float64.truncOf (hue1 pl g) = pl) := fun pl g hp hg => hue_tab0 pl hp g hg
theorem hue_spec {w : World} {gd : Option (List Code)} {cn : Str} {cs : Scope} {a : Addr} {ccd : Value} {cl : List (Str × Addr)} {outer : List Env} {A₀ : Around} {base h₀ : Heap} {L : Addr} {m : Str → Option Value} {rest : List (Addr × Obj)} {s : Shared} {Q E : Value → Shared → Prop} {p : Program} {loose : List Str} {mean : ExcName → Option Value} {mg mb : Str → Option Value} {pl g : Nat} {t1 : Tok}
    (B : Below A₀ base outer h₀) (F : Fr h₀ L s.heap m) (X₀ : (Mine.hd.heap_1 w.params).In h₀) (T : Top p loose mean mg mb h₀) (hk : cs.kind = .function) (N : News h₀ L s.heap rest) (hpl : pl < 48) (hg : g < 2)
    (h : ∀ h' tk' ti, Fr h₀ L h' m → News h₀ L h' rest → Q (.int pl ti) { s with heap := h', toks := tk' }) :
    wpAny (model PySem.Challenge.rw_pg0112_01.row.prog w) (Ar 700 4000 (envX cn cs L a ccd cl :: outer) gd) (call (.ref 115) [.str ⟨(wordOf pl g).toArray⟩ t1]) Q E s := by
  revert X₀; k_fill; intro X₀
  refine wpAny_call ?_
  k_dflt ktr_enter
  rename_i g' L' h' FG F' N' B' X' T'
  have hr3 : (ringD (pl / 8) (pl % 8)).length = 3 := by unfold ringD; split <;> rfl
  refine goal_G fun GG hGG => ?_
  refine goal_G fun GG hGG => ?_
  obtain ⟨x0, x1, x2, hx⟩ := len3 hr3
  refine hGG ?_
  clear hGG GG
  refine hGG ?_
  clear hGG GG
  have ew : wordOf pl g = [48 + (x0 + g), 48 + (x1 + g), 48 + (x2 + g)] := by unfold wordOf; rw [hx]; rfl
  first | refine Exists.elim (Fr.some F' [("word", .str ⟨#[48 + (x0 + g), 48 + (x1 + g), 48 + (x2 + g)]⟩ t1)] ⟨by rw [← show (wordOf pl g).toArray = #[48 + (x0 + g), 48 + (x1 + g), 48 + (x2 + g)] from by rw [ew]]; rfl, trivial⟩) fun u F1 => ?_ | refine and_on2 (Fr.some F' [("word", .str ⟨#[48 + (x0 + g), 48 + (x1 + g), 48 + (x2 + g)]⟩ t1)] ⟨by rw [← show (wordOf pl g).toArray = #[48 + (x0 + g), 48 + (x1 + g), 48 + (x2 + g)] from by rw [ew]]; rfl, trivial⟩) fun u F1 => ?_
  clear F'
  walk
  have hb : x0 ≤ 8 ∧ x1 ≤ 8 ∧ x2 ≤ 8 ∧ max3 (x0 : Int) x1 x2 = 8 ∧ min3 (x0 : Int) x1 x2 = 0 := by
    have := ring_tab pl hpl
    rw [hx] at this
    simpa [List.getD] using this
  refine goal_G fun GG hGG => ?_
  refine goal_G fun GG hGG => ?_
  obtain ⟨b0, b1, b2, hM, hm⟩ := hb
  refine hGG ?_
  clear hGG GG
  refine hGG ?_
  clear hGG GG
  have i0 : (Txt.item { cps := #[48 + (x0 + g), 48 + (x1 + g), 48 + (x2 + g)] } 0) = ⟨#[48 + (x0 + g)]⟩ := rfl
  rw [i0]
  refine KIN.call_text (dig_int (x0 + g) (by lia)) (by show (1 : Nat) ≤ 640; decide) ?_
  walk
  have i1 : (Txt.item { cps := #[48 + (x0 + g), 48 + (x1 + g), 48 + (x2 + g)] } 1) = ⟨#[48 + (x1 + g)]⟩ := rfl
  rw [i1]
  refine KIN.call_text (dig_int (x1 + g) (by lia)) (by show (1 : Nat) ≤ 640; decide) ?_
  walk
  have i2 : (Txt.item { cps := #[48 + (x0 + g), 48 + (x1 + g), 48 + (x2 + g)] } 2) = ⟨#[48 + (x2 + g)]⟩ := rfl
  rw [i2]
  refine KIN.call_text (dig_int (x2 + g) (by lia)) (by show (1 : Nat) ≤ 640; decide) ?_
  walk
  rename Fr g' L' _ _ => F9
  rename News g' L' _ _ => N9
  have hxs : Float64.isFinite (Float64.add (Float64.mul (Float64.ofInt 48) (hueF ((x0 + g : Nat) : Int) ((x1 + g : Nat) : Int) ((x2 + g : Nat) : Int) ((8 + g : Nat) : Int))) 4602678819172646912) = true ∧ Flt.toInt Float64.truncOf (Float64.add (Float64.mul (Float64.ofInt 48) (hueF ((x0 + g : Nat) : Int) ((x1 + g : Nat) : Int) ((x2 + g : Nat) : Int) ((8 + g : Nat) : Int))) 4602678819172646912) = pl := by
    have h0 := hue_tab pl g hpl hg
    unfold hue1 at h0
    rw [hx] at h0
    exact h0
  first | refine Exists.elim (hxs) fun hfin hval => ?_ | refine and_on2 (hxs) fun hfin hval => ?_
  refine lift rfl (Nat.le_of_ble_eq_true rfl) rfl (Nat.le_of_ble_eq_true rfl) (rgb_spec (M := 8 + g) B' F9 X' T' rfl N9 (by lia) (by lia) (by lia) ?_ ?_ (by lia) ?_)
  · rw [show ((x0 + g : Nat) : Int) = x0 + g from by lia, show ((x1 + g : Nat) : Int) = x1 + g from by lia, show ((x2 + g : Nat) : Int) = x2 + g from by lia]
    unfold max3 at hM ⊢
    split at hM <;> split at hM <;> (split <;> split <;> lia)
  · rw [show ((x0 + g : Nat) : Int) = x0 + g from by lia, show ((x1 + g : Nat) : Int) = x1 + g from by lia, show ((x2 + g : Nat) : Int) = x2 + g from by lia]
    unfold min3 at hm ⊢
    split at hm <;> split at hm <;> (split <;> split <;> lia)
  intro h3 tk3 D th ts tm sf F10 N10 lD
  have hT : IsTup h3 D #[.float (hueF ((x0 + g : Nat) : Int) ((x1 + g : Nat) : Int) ((x2 + g : Nat) : Int) ((8 + g : Nat) : Int)) th, .float sf ts, .int ((8 + g : Nat) : Int) tm] := ⟨_, (N10 _ (.head _)).1, rfl, _, rfl⟩
  walk
  rw [hval]
  rename News h₀ L _ _ => NE
  exact h _ _ _ (by assumption) (News.sub NE fun p hp => .tail _ hp)
end
section
open PyProof.Rows.LCg (NsObj ns_obj)
section
variable {prog : Program} {w : World} {A : Around} {E : Value → Shared → Prop} {s₁ : Shared} {h₀ : Heap} {L : Addr} {m : Str → Option Value} {env : Env}

/-- one turn's element: what the reckoning of it leaves -/
noncomputable def EltDone (h₀ : Heap) (L : Addr) (m : Str → Option Value) (s : Shared) (pre rest : List (Addr × Obj)) (J : Value → List (Addr × Obj) → Prop) (x : Value) (s' : Shared) : Prop :=
  ∃ h' tk rest', s' = { s with heap := h', toks := tk } ∧ Fr h₀ L h' m ∧ News h₀ L h' (pre ++ rest') ∧ (∀ p ∈ rest', ∃ q ∈ rest, q.1 = p.1) ∧ J x rest'

theorem EltDone.same {s : Shared} {pre rest : List (Addr × Obj)} {J : Value → List (Addr × Obj) → Prop} {x : Value} {h' : Heap} {tk : Nat} (F : Fr h₀ L h' m) (N : News h₀ L h' (pre ++ rest)) (hJ : J x rest) :
    EltDone h₀ L m s pre rest J x { s with heap := h', toks := tk } := ⟨h', tk, rest, rfl, F, N, fun p hp => ⟨p, hp, rfl⟩, hJ⟩

theorem EltDone.to {s : Shared} {pre rest rest' : List (Addr × Obj)} {J : Value → List (Addr × Obj) → Prop} {x : Value} {h' : Heap} {tk : Nat} (F : Fr h₀ L h' m) (N : News h₀ L h' (pre ++ rest')) (hs : ∀ p ∈ rest', ∃ q ∈ rest, q.1 = p.1) (hJ : J x rest') :
    EltDone h₀ L m s pre rest J x { s with heap := h', toks := tk } := ⟨h', tk, rest', rfl, F, N, hs, hJ⟩
theorem lc_map_list {elt iter : PySem.Expr} {y : Str} {py : Pos} {scope : Scope} {pos : Pos} {cl : List (Str × Addr)} {Fin : Shared → Addr → List Value → Nat → List (Addr × Obj) → Prop} {l : Addr} {vs : List Value} {news : List (Addr × Obj)}
    (J : Nat → List Value → List (Addr × Obj) → Prop) (hh : A.handled = none) (hy : scope.names.lookup y = some .local) (hkind : scope.kind = .function)
    (F : Fr h₀ L s₁.heap m) (N : News h₀ L s₁.heap news) (hl : s₁.heap.IsList l vs.toArray) (hsz : vs.length < 1000) (hJ : J 0 [] news) (hJl : ∀ i ys rest, J i ys rest → ys.length = i)
    (hkeep : ∀ i ys rest h, J i ys rest → Fr h₀ L h m → News h₀ L h rest → h.IsList l vs.toArray)
    (turn : ∀ i ys rest I oI C oC mc D ne h tk, i < vs.length → J i ys rest → Fr h₀ L h m → News h₀ L h ([(C, oC), (I, oI), (D, listOf ys.toArray ne)] ++ rest) → NsObj oC mc → mc y = some (vs.getD i .none) → ∀ (J' : Value → List (Addr × Obj) → Prop), (∀ x rest', J (i + 1) (ys ++ [x]) rest' → J' x rest') → 
      wpAny (model prog w) A (eval elt (compEnvC scope cl C env)) (EltDone h₀ L m { s₁ with heap := h, toks := tk } [(C, oC), (I, oI), (D, listOf ys.toArray ne)] rest J') noE { s₁ with heap := h, toks := tk })
    (fin : ∀ (hh : Heap) D ys n rest, J vs.length ys rest → Fin { s₁ with heap := hh } D ys n rest) :
    wpAny (model prog w) A (pyIter (.ref l)) (LcSrc prog w A h₀ L m env (.ListComp elt [⟨.Name y py, iter, [], 0⟩] scope pos) scope cl Fin) E s₁ := by
  refine lc_src_list F N hl ?_
  rintro I oI D C oC h1 tk1 hh' F2 N2 hli hC nCD nCI nDI offCD offI
  refine lc_loop_G (fun n news₁ => Ex7 fun (i : Nat) (oI oC : Obj) (mc : Str → Option Value) (ys : List Value) (ne : Nat) (rest : List (Addr × Obj)) => i + n = vs.length ∧ news₁ = ((I, oI) :: (C, oC) :: (D, listOf ys.toArray ne) :: rest) ∧ isLi oI l i ∧ NsObj oC mc ∧ (∀ p ∈ rest, p.1 ≠ C ∧ p.1 ≠ D ∧ p.1 ≠ I) ∧ J i ys rest) (n₀ := vs.length)
    F2 (News.rot' N2) (Ex7.mk 0 oI oC _ ([]) 0 news ⟨by lia, rfl, hli, hC, fun p hp => ⟨(offCD p hp).1, (offCD p hp).2, offI p hp⟩, hJ⟩) ?_
  clear F2 N2 hli hC oC oI offCD offI
  intro J1 R1 hJ1 hR1 n news₁ h2 tk2 F2 N2 hJJ
  refine hJJ _ fun i oI oC mc ys ne rest hAA => ?_
  refine and_on6 hAA fun hin hE1 hli hC off hJi => ?_
  clear hAA hJJ
  refine goal_G fun GG hGG => ?_
  subst hE1
  refine hGG ?_
  clear hGG GG
  have hl2 := hkeep i ys rest h2 hJi F2 (News.sub N2 fun p hp => .tail _ (.tail _ (.tail _ hp)))
  have oI' : Off I ((C, oC) :: (D, listOf ys.toArray ne) :: rest) := Off.cons nCI (Off.cons nDI fun p hp => (off p hp).2.2)
  have oC' : Off C ((I, oI) :: (D, listOf ys.toArray ne) :: rest) := Off.cons (Ne.symm nCI) (Off.cons (Ne.symm nCD) fun p hp => (off p hp).1)
  rcases n with _ | n
  · refine next_list_end hh F2 N2 oI' hli hl2 (by lia) ?_
    intro h3 F3 N3
    rw [Nat.add_zero] at hin
    subst hin
    exact hR1 _ _ (lcd (F3) (News.swap N3) (hC) (fun p hp => ⟨(off p hp).1, (off p hp).2.1⟩) (nCD) (fin _ _ _ _ _ hJi))
  · refine next_list F2 N2 oI' hli hl2 (by lia) ?_
    intro h3 oI3 hli3 F3 N3
    dsimp only
    have oC3 : Off C ((I, oI3) :: (D, listOf ys.toArray ne) :: rest) := Off.cons (Ne.symm nCI) (Off.cons (Ne.symm nCD) fun p hp => (off p hp).1)
    refine lc_store hy hkind F3 (News.swap N3) hC oC3 ?_
    intro oC4 h4 hC4 F4 N4
    refine wpAny_tests_nil ?_
    refine ifT rfl ?_
    refine wpAny_mono (turn i ys rest I oI3 C oC4 _ D ne h4 _ (by lia) hJi F4 N4 hC4 (if_pos rfl) _ (fun _ _ h => h)) ?_ fun _ _ x => x.elim
    intro x s' hPP
    refine goal_G fun GG hGG => ?_
    obtain ⟨h5, tk5, rest', rfl, F5, N5, hsub, hJ5⟩ := hPP
    refine hGG ?_
    clear hGG GG
    have off' : ∀ p ∈ rest', p.1 ≠ C ∧ p.1 ≠ D ∧ p.1 ≠ I := fun p hp => by
      refine goal_G fun GG hGG => ?_
      obtain ⟨q, hq, e⟩ := hsub p hp
      refine hGG ?_
      clear hGG GG
      rw [← e]; exact off q hq
    have N6 : News h₀ L h5 ((D, listOf ys.toArray ne) :: (I, oI3) :: (C, oC4) :: rest') := News.sub N5 fun p hp => by
      revert p
      repeat' (first | with_reducible exact sub_nil | with_reducible exact sub_self | with_reducible exact List.mem_cons_self | with_reducible refine sub_cons ?_ ?_ | with_reducible refine sub_app ?_ ?_ | with_reducible refine List.mem_cons_of_mem _ ?_ | (with_reducible refine List.mem_append_left _ ?_; (repeat (first | with_reducible exact List.mem_cons_self | with_reducible refine List.mem_cons_of_mem _ ?_)); done) | with_reducible refine List.mem_append_right _ ?_ | with_reducible refine sub_tl ?_ | with_reducible exact sub_apl sub_self | with_reducible refine sub_apr ?_)
    refine lc_append F5 N6 (Off.cons (Ne.symm nDI) (Off.cons nCD fun p hp => (off' p hp).2.1)) (by rw [hJl _ _ _ hJi]; lia) ?_
    intro h7 F7 N7
    refine lcs (n' := n) (F7) (News.sub N7 fun p hp => ?_) (Nat.lt_succ_self _) (hJ1 _ _ (Ex7.mk (i + 1) oI3 oC4 _ (ys ++ [x]) (ne + 1) rest' ⟨by lia, rfl, hli3, hC4, off', hJ5⟩))
    revert p
    repeat' (first | with_reducible exact sub_nil | with_reducible exact sub_self | with_reducible exact List.mem_cons_self | with_reducible refine sub_cons ?_ ?_ | with_reducible refine sub_app ?_ ?_ | with_reducible refine List.mem_cons_of_mem _ ?_ | (with_reducible refine List.mem_append_left _ ?_; (repeat (first | with_reducible exact List.mem_cons_self | with_reducible refine List.mem_cons_of_mem _ ?_)); done) | with_reducible refine List.mem_append_right _ ?_ | with_reducible refine sub_tl ?_ | with_reducible exact sub_apl sub_self | with_reducible refine sub_apr ?_)
theorem lc_map_rangeO {elt iter : PySem.Expr} {y : Str} {py : Pos} {scope : Scope} {pos : Pos} {cl : List (Str × Addr)} {Fin : Shared → Addr → List Value → Nat → List (Addr × Obj) → Prop} {l : Addr} {k : Nat} {t0 t1 t2 : Tok} {news : List (Addr × Obj)}
    (J : Nat → List Value → List (Addr × Obj) → Prop) (hh : A.handled = none) (hy : scope.names.lookup y = some .local) (hkind : scope.kind = .function)
    (F : Fr h₀ L s₁.heap m) (N : News h₀ L s₁.heap news) (hl : IsRange s₁.heap l 0 k 1 t0 t1 t2) (hsm : Builtin.Range.small 0 (k : Nat) 1 = true) (hrs : Builtin.Range.rangeSize 0 (k : Nat) 1 = (k : Nat)) (hsz : k < 1000) (hJ : J 0 [] news) (hJl : ∀ i ys rest, J i ys rest → ys.length = i)
    (turn : ∀ i ys rest I oI C oC mc D ne h tk (ti : Tok), i < k → J i ys rest → Fr h₀ L h m → News h₀ L h ([(C, oC), (I, oI), (D, listOf ys.toArray ne)] ++ rest) → NsObj oC mc → mc y = some (.int (i : Int) ti) → (∀ p ∈ rest, p.1 ≠ C ∧ p.1 ≠ D ∧ p.1 ≠ I) → C ≠ I → D ≠ I → C ≠ D → ∀ (J' : Value → List (Addr × Obj) → Prop), (∀ x rest', J (i + 1) (ys ++ [x]) rest' → J' x rest') → 
      wpAny (model prog w) A (eval elt (compEnvC scope cl C env)) (EltDone h₀ L m { s₁ with heap := h, toks := tk } [(C, oC), (I, oI), (D, listOf ys.toArray ne)] rest J') noE { s₁ with heap := h, toks := tk })
    (fin : ∀ (hh : Heap) D ys n rest, J k ys rest → Fin { s₁ with heap := hh } D ys n rest) :
    wpAny (model prog w) A (pyIter (.ref l)) (LcSrc prog w A h₀ L m env (.ListComp elt [⟨.Name y py, iter, [], 0⟩] scope pos) scope cl Fin) E s₁ := by
  refine lc_src_range F N hl hsm hrs ?_
  rintro I D C oC h1 tk1 hh' F2 N2 hC nCD nCI nDI offCD offI
  refine lc_loop_G (fun n news₁ => Ex6 fun (i : Nat) (oC : Obj) (mc : Str → Option Value) (ys : List Value) (ne : Nat) (rest : List (Addr × Obj)) => i + n = k ∧ news₁ = ((I, riObj i n 1) :: (C, oC) :: (D, listOf ys.toArray ne) :: rest) ∧ NsObj oC mc ∧ (∀ p ∈ rest, p.1 ≠ C ∧ p.1 ≠ D ∧ p.1 ≠ I) ∧ J i ys rest) (n₀ := k)
    F2 (News.rot' N2) (Ex6.mk 0 oC _ ([]) 0 news ⟨by lia, rfl, hC, fun p hp => ⟨(offCD p hp).1, (offCD p hp).2, offI p hp⟩, hJ⟩) ?_
  clear F2 N2 hC oC offCD offI
  intro J2 R2 hJ2 hR2 n news₁ h2 tk2 F2 N2 hJJ
  refine hJJ _ fun i oC mc ys ne rest hAA => ?_
  refine and_on5 hAA fun hin hE1 hC off hJi => ?_
  clear hAA hJJ
  refine goal_G fun GG hGG => ?_
  subst hE1
  refine hGG ?_
  clear hGG GG
  have oI' : Off I ((C, oC) :: (D, listOf ys.toArray ne) :: rest) := Off.cons nCI (Off.cons nDI fun p hp => (off p hp).2.2)
  have oC' : Off C ((I, riObj i n 1) :: (D, listOf ys.toArray ne) :: rest) := Off.cons (Ne.symm nCI) (Off.cons (Ne.symm nCD) fun p hp => (off p hp).1)
  rcases n with _ | n
  · refine next_range_end hh F2 N2 oI' (by simp) ?_
    intro h3 F3 N3
    rw [Nat.add_zero] at hin
    subst hin
    exact hR2 _ _ (lcd (F3) (News.swap N3) (hC) (fun p hp => ⟨(off p hp).1, (off p hp).2.1⟩) (nCD) (fin _ _ _ _ _ hJi))
  · refine next_range F2 N2 oI' (by lia) ?_
    rw [show ((n + 1 : Nat) : Int) - 1 = (n : Int) from rng_c n, show (i : Int) + 1 = ((i + 1 : Nat) : Int) from rfl]
    intro h3 F3 N3
    dsimp only
    have oC3 : Off C ((I, riObj (i + 1 : Nat) n 1) :: (D, listOf ys.toArray ne) :: rest) := Off.cons (Ne.symm nCI) (Off.cons (Ne.symm nCD) fun p hp => (off p hp).1)
    refine lc_store hy hkind F3 (News.swap N3) hC oC3 ?_
    intro oC4 h4 hC4 F4 N4
    refine wpAny_tests_nil ?_
    refine ifT rfl ?_
    refine wpAny_mono (turn i ys rest I _ C oC4 _ D ne h4 _ _ (by lia) hJi F4 N4 hC4 (if_pos rfl) off nCI nDI nCD _ (fun _ _ h => h)) ?_ fun _ _ x => x.elim
    intro x s' hPP
    refine goal_G fun GG hGG => ?_
    obtain ⟨h5, tk5, rest', rfl, F5, N5, hsub, hJ5⟩ := hPP
    refine hGG ?_
    clear hGG GG
    have off' : ∀ p ∈ rest', p.1 ≠ C ∧ p.1 ≠ D ∧ p.1 ≠ I := fun p hp => by
      refine goal_G fun GG hGG => ?_
      obtain ⟨q, hq, e⟩ := hsub p hp
      refine hGG ?_
      clear hGG GG
      rw [← e]; exact off q hq
    have N6 : News h₀ L h5 ((D, listOf ys.toArray ne) :: (I, riObj (i + 1 : Nat) n 1) :: (C, oC4) :: rest') := News.sub N5 fun p hp => by
      revert p
      repeat' (first | with_reducible exact sub_nil | with_reducible exact sub_self | with_reducible exact List.mem_cons_self | with_reducible refine sub_cons ?_ ?_ | with_reducible refine sub_app ?_ ?_ | with_reducible refine List.mem_cons_of_mem _ ?_ | (with_reducible refine List.mem_append_left _ ?_; (repeat (first | with_reducible exact List.mem_cons_self | with_reducible refine List.mem_cons_of_mem _ ?_)); done) | with_reducible refine List.mem_append_right _ ?_ | with_reducible refine sub_tl ?_ | with_reducible exact sub_apl sub_self | with_reducible refine sub_apr ?_)
    refine lc_append F5 N6 (Off.cons (Ne.symm nDI) (Off.cons nCD fun p hp => (off' p hp).2.1)) (by rw [hJl _ _ _ hJi]; lia) ?_
    intro h7 F7 N7
    refine lcs (n' := n) (F7) (News.sub N7 fun p hp => ?_) (Nat.lt_succ_self _) (hJ2 _ _ (Ex6.mk (i + 1) oC4 _ (ys ++ [x]) (ne + 1) rest' ⟨by lia, rfl, hC4, off', hJ5⟩))
    revert p
    repeat' (first | with_reducible exact sub_nil | with_reducible exact sub_self | with_reducible exact List.mem_cons_self | with_reducible refine sub_cons ?_ ?_ | with_reducible refine sub_app ?_ ?_ | with_reducible refine List.mem_cons_of_mem _ ?_ | (with_reducible refine List.mem_append_left _ ?_; (repeat (first | with_reducible exact List.mem_cons_self | with_reducible refine List.mem_cons_of_mem _ ?_)); done) | with_reducible refine List.mem_append_right _ ?_ | with_reducible refine sub_tl ?_ | with_reducible exact sub_apl sub_self | with_reducible refine sub_apr ?_)
theorem lc_map_range {elt iter : PySem.Expr} {y : Str} {py : Pos} {scope : Scope} {pos : Pos} {cl : List (Str × Addr)} {Fin : Shared → Addr → List Value → Nat → List (Addr × Obj) → Prop} {l : Addr} {k : Nat} {t0 t1 t2 : Tok} {news : List (Addr × Obj)}
    (J : Nat → List Value → List (Addr × Obj) → Prop) (hh : A.handled = none) (hy : scope.names.lookup y = some .local) (hkind : scope.kind = .function)
    (F : Fr h₀ L s₁.heap m) (N : News h₀ L s₁.heap news) (hl : IsRange s₁.heap l 0 k 1 t0 t1 t2) (hsm : Builtin.Range.small 0 (k : Nat) 1 = true) (hrs : Builtin.Range.rangeSize 0 (k : Nat) 1 = (k : Nat)) (hsz : k < 1000) (hJ : J 0 [] news) (hJl : ∀ i ys rest, J i ys rest → ys.length = i)
    (turn : ∀ i ys rest I oI C oC mc D ne h tk (ti : Tok), i < k → J i ys rest → Fr h₀ L h m → News h₀ L h ([(C, oC), (I, oI), (D, listOf ys.toArray ne)] ++ rest) → NsObj oC mc → mc y = some (.int (i : Int) ti) → ∀ (J' : Value → List (Addr × Obj) → Prop), (∀ x rest', J (i + 1) (ys ++ [x]) rest' → J' x rest') → 
      wpAny (model prog w) A (eval elt (compEnvC scope cl C env)) (EltDone h₀ L m { s₁ with heap := h, toks := tk } [(C, oC), (I, oI), (D, listOf ys.toArray ne)] rest J') noE { s₁ with heap := h, toks := tk })
    (fin : ∀ (hh : Heap) D ys n rest, J k ys rest → Fin { s₁ with heap := hh } D ys n rest) :
    wpAny (model prog w) A (pyIter (.ref l)) (LcSrc prog w A h₀ L m env (.ListComp elt [⟨.Name y py, iter, [], 0⟩] scope pos) scope cl Fin) E s₁ :=
  lc_map_rangeO J hh hy hkind F N hl hsm hrs hsz hJ hJl (fun i ys rest I oI C oC mc D ne h tk ti a b c d e f _ _ _ _ => turn i ys rest I oI C oC mc D ne h tk ti a b c d e f) fin
end
end
section
open PyProof.V PySem.SeqAt
theorem canLayAll0_strs : ∀ ns : List Str, (∀ n ∈ ns, PyData.strOk n = true) → PyData.canLayAll0 (ns.map PyData.str) = true
  | [], _ => by simp [PyData.canLayAll0]
  | n :: r, h => by simp [PyData.canLayAll0, PyData.canLay0, canLayAll0_strs r fun m hm => h m (.tail _ hm), h n (.head _)]
theorem depthAll_strs : ∀ ns : List Str, PyData.depthAll (ns.map PyData.str) ≤ 1
  | [] => by simp [PyData.depthAll]
  | n :: r => by
    have := depthAll_strs r
    simp only [List.map_cons, PyData.depthAll, PyData.depth]
    lia
theorem shaped_strs (ns : List Str) (hok : ∀ n ∈ ns, PyData.strOk n = true) : shaped (.list (ns.map PyData.str)) = true := by
  have h1 := depthAll_strs ns
  have h2 : PyData.depth (.list (ns.map PyData.str)) ≤ 64 := by simp only [PyData.depth]; lia
  show (PyData.canLay0 (.list (ns.map PyData.str)) && decide (PyData.depth (.list (ns.map PyData.str)) ≤ 64)) = true
  rw [Bool.and_eq_true]
  exact ⟨by simp only [PyData.canLay0]; exact canLayAll0_strs ns hok, decide_eq_true h2⟩
theorem noMix_strs : ∀ ns ms : List Str, noMixAll (ns.map PyData.str) (ms.map PyData.str) = true
  | [], [] => by simp [noMixAll]
  | [], _ :: _ => by simp [noMixAll]
  | _ :: _, [] => by simp [noMixAll]
  | _ :: r, _ :: q => by simp [noMixAll, noMix, noMix_strs r q]
theorem same_refl_strs : ∀ ns : List Str, PySem.Spec.sameAll (ns.map PyData.str) (ns.map PyData.str) = true
  | [] => by simp [PySem.Spec.sameAll]
  | n :: r => by simp [PySem.Spec.sameAll, PySem.Spec.same, same_refl_strs r]
theorem reads_of_strs {h : Heap} {a : Addr} {vs : List Value} {ns : List Str} (hl : h.IsList a vs.toArray) (hi : StrsAre vs ns) : Reads h (.ref a) (.list (ns.map PyData.str)) [a] := by
  obtain ⟨o, ho, hc, n, hd⟩ := hl
  exact Reads.list ho hc hd (by simpa using StrsAre.reads h hi)
section
variable {prog : Program} {w : World} {A : Around} {E : Value → Shared → Prop} {s : Shared}
/-- two lists of the same texts are not unlike -/
theorem ne_strsK {a b : Addr} {vs us : List Value} {ns : List Str} {Q : Value → Shared → Prop} (hl : s.heap.IsList a vs.toArray) (hi : StrsAre vs ns) (hl' : s.heap.IsList b us.toArray) (hi' : StrsAre us ns) (hok : ∀ n ∈ ns, PyData.strOk n = true) (hu : A.units + 64 < cLine)
    (h : Q (.bool false) s) : wpAny (model prog w) A (compareOp .NotEq (.ref a) (.ref b)) Q E s :=
  ne_dataH_same (reads_of_strs hl hi) (reads_of_strs hl' hi') (shaped_strs ns hok) (shaped_strs ns hok) hu (by simp only [noMix]; exact noMix_strs ns ns) (by simp only [PySem.Spec.same]; rw [same_refl_strs]; exact h)
end
end
section
open PyProof.Rows.LCg (NsObj ns_obj)
section
variable {M : Model} {A : Around} {E : Value → Shared → Prop} {s : Shared}
/-- a comprehension's own variables where one of them is a cell -/
theorem newEnv_oneCell {x y z v : Str} {kx ky kz : NameKind} {gen cor : Bool} {more} {globals : Addr} {closure : List (Str × Addr)} {qual : Str} {around : Env} {Q : Env → Shared → Prop}
    (h1 : (kx == NameKind.cell) = false) (h2 : (ky == NameKind.cell) = false) (h3 : (kz == NameKind.cell) = false)
    (hQ : Q { scope := ⟨.function, [(x, kx), (v, .cell), (y, ky), (z, kz)], gen, cor, more⟩, locals := s.heap.objs.size, globals := globals, cells := (v, s.heap.objs.size + 1) :: closure, qual := qual, func := none, code := around.code, frame := around.frame, builtins := around.builtins }
      { s with heap := (s.heap.push { cls := .type "dict", data := .dict #[] }).push { cls := .type "cell", data := .cell none } }) :
    wpAny M A (newFunctionEnv ⟨.function, [(x, kx), (v, .cell), (y, ky), (z, kz)], gen, cor, more⟩ globals closure [] qual none .none (some around)) Q E s := by
  unfold newFunctionEnv
  refine wpAny_bind (wpAny_alloc ?_)
  simp only [List.forIn_cons, List.forIn_nil, h1, h2, h3]
  simp only [Bool.false_eq_true, if_false, beq_self_eq_true, if_true, if_pos]
  repeat (first | refine wpAny_bind ?_ | refine wpAny_pure ?_ | refine wpAny_alloc ?_ | rw [if_pos (by decide)] | dsimp only)
  simpa using hQ
end
section
variable {prog : Program} {w : World} {A : Around} {E : Value → Shared → Prop} {h₀ : Heap} {L : Addr} {m : Str → Option Value} {env : Env}
theorem lc_enter1 {e elt target iter : PySem.Expr} {ifs : List PySem.Expr} {gs : List Comprehension} {x y z v : Str} {kx ky kz : NameKind} {gen cor : Bool} {more : List (Str × Const)} {pos : Pos} {cl : List (Str × Addr)} {I : Addr} {oI : Obj} {news : List (Addr × Obj)} {s₂ : Shared} {RR : Value → Addr → Result → Shared → Prop}
    (he : e = .ListComp elt (⟨target, iter, ifs, 0⟩ :: gs) ⟨.function, [(x, kx), (v, .cell), (y, ky), (z, kz)], gen, cor, more⟩ pos)
    (F : Fr h₀ L s₂.heap m) (N : News h₀ L s₂.heap ((I, oI) :: news))
    (hk1 : (kx == NameKind.cell) = false) (hk2 : (ky == NameKind.cell) = false) (hk3 : (kz == NameKind.cell) = false)
    (hself : ∀ (s' : Shared) (Q' : Value → Shared → Prop) (E' : Value → Shared → Prop), s'.heap.get? I = some oI → Q' (.ref I) s' → wpAny (model prog w) A (pyIter (.ref I)) Q' E' s')
    (body : ∀ D C c oC oc h tk, Fr h₀ L h m → News h₀ L h ((c, oc) :: (C, oC) :: (D, listOf #[] 0) :: (I, oI) :: news) → NsObj oC (fun _ => none) → oc.data = .cell none → C ≠ D → C ≠ I → D ≠ I → c ≠ C → c ≠ D → c ≠ I → (∀ p ∈ news, p.1 ≠ C ∧ p.1 ≠ D ∧ p.1 ≠ c) →
      codeAny (model prog w) A (.compLoop e 0 (.ref I) (.ref D) (compEnvC ⟨.function, [(x, kx), (v, .cell), (y, ky), (z, kz)], gen, cor, more⟩ ((v, c) :: cl) C env)) (RR (.ref D) C) { s₂ with heap := h, toks := tk }) :
    wpAny (model prog w) A (newList []) (fun acc s₃ => wpAny (model prog w) A (newFunctionEnv ⟨.function, [(x, kx), (v, .cell), (y, ky), (z, kz)], gen, cor, more⟩ env.globals cl [] env.qual none .none (some env)) (fun cenv s₄ =>
      codeAny (model prog w) A (.compStart e 0 (.ref I) acc { cenv with scope := relabel ⟨.function, [(x, kx), (v, .cell), (y, ky), (z, kz)], gen, cor, more⟩ env }) (RR acc cenv.locals) s₄) E s₃) E s₂ := by
  subst he
  refine wpAny_newObj_type (newEnv_oneCell hk1 hk2 hk3 ?_)
  dsimp only
  obtain ⟨F2, N2, ne2⟩ := led_new (o := listOf ([] : List Value).toArray 0) F N rfl
  obtain ⟨F3, N3, ne3⟩ := led_new (o := { cls := .type "dict", data := .dict #[] }) F2 N2 rfl
  obtain ⟨F4, N4, ne4⟩ := led_new (o := { cls := .type "cell", data := .cell none }) F3 N3 rfl
  generalize hH1 : s₂.heap.push (listOf ([] : List Value).toArray 0) = H1 at F2 N2 F3 N3 ne3 F4 N4 ne4
  have hh : s₂.heap.push { cls := .type "list", data := .seq #[] } = H1 := hH1
  have sz : (H1.push { cls := .type "dict", data := .dict #[] }).objs.size = H1.objs.size + 1 := Heap.size_push _ _
  rw [sz] at N4 ne4
  have hNs : NsObj { cls := .type "dict", data := .dict #[] } (fun _ => none) := by
    obtain ⟨o, hg, ho⟩ := ns_obj (Heap.Ns.new H1 (.type "dict"))
    have := (N3 _ (.head _)).1
    rw [hg] at this
    cases this
    exact ho
  have q := fun p hp => (ne4 p hp)
  have loop := fun tk => body s₂.heap.objs.size H1.objs.size (H1.objs.size + 1) _ _ _ tk F4 N4 hNs rfl (Ne.symm (ne3 (s₂.heap.objs.size, listOf #[] 0) (.head _))) (Ne.symm (ne3 (I, oI) (.tail _ (.head _)))) (Ne.symm (ne2 (I, oI) (.head _)))
    (Ne.symm (ne4 (H1.objs.size, { cls := .type "dict", data := .dict #[] }) (.head _))) (Ne.symm (ne4 (s₂.heap.objs.size, listOf #[] 0) (.tail _ (.head _)))) (Ne.symm (ne4 (I, oI) (.tail _ (.tail _ (.head _)))))
    (fun p hp => ⟨ne3 p (.tail _ (.tail _ hp)), ne2 p (.tail _ hp), ne4 p (.tail _ (.tail _ (.tail _ hp)))⟩)
  exact codeAny_compStart_list (loop _) (hself _ _ _ (N4 (I, oI) (.tail _ (.tail _ (.tail _ (.head _))))).1 (loop _))
variable {s : Shared}
noncomputable def LcSrc1 (prog : Program) (w : World) (A : Around) (h₀ : Heap) (L : Addr) (m : Str → Option Value) (env : Env) (e : PySem.Expr) (scope : Scope) (v : Str) (cl : List (Str × Addr)) (Fin : Shared → Addr → List Value → Nat → List (Addr × Obj) → Prop) (it : Value) (s₂ : Shared) : Prop :=
  ∃ I oI news, it = .ref I ∧ Fr h₀ L s₂.heap m ∧ News h₀ L s₂.heap ((I, oI) :: news) ∧
    (∀ (s' : Shared) (Q' : Value → Shared → Prop) (E' : Value → Shared → Prop), s'.heap.get? I = some oI → Q' (.ref I) s' → wpAny (model prog w) A (pyIter (.ref I)) Q' E' s') ∧
    ∀ D C c oC oc h tk, Fr h₀ L h m → News h₀ L h ((c, oc) :: (C, oC) :: (D, listOf #[] 0) :: (I, oI) :: news) → NsObj oC (fun _ => none) → oc.data = .cell none → C ≠ D → C ≠ I → D ≠ I → c ≠ C → c ≠ D → c ≠ I → (∀ p ∈ news, p.1 ≠ C ∧ p.1 ≠ D ∧ p.1 ≠ c) →
      codeAny (model prog w) A (.compLoop e 0 (.ref I) (.ref D) (compEnvC scope ((v, c) :: cl) C env)) (LcDone h₀ L m C D s₂ (Fin s₂ D)) { s₂ with heap := h, toks := tk }

theorem LC_assign1 {elt target iter : PySem.Expr} {ifs : List PySem.Expr} {gs : List Comprehension} {x v z1 z2 : Str} {kx ky kz : NameKind} {gen cor : Bool} {more : List (Str × Const)} {pos spos py : Pos} {y : Str} {cl : List (Str × Addr)} {Q : Flow → Shared → Prop}
    (hL : env.locals = L) (hsw : swapsWith (.ListComp elt (⟨target, iter, ifs, 0⟩ :: gs) ⟨.function, [(x, kx), (v, .cell), (z1, ky), (z2, kz)], gen, cor, more⟩ pos) (some (.Name y py)) spos.line env = pure true)
    (hclos : closureFor ⟨.function, [(x, kx), (v, .cell), (z1, ky), (z2, kz)], gen, cor, more⟩ env = pure cl) (hk1 : (kx == NameKind.cell) = false) (hk2 : (ky == NameKind.cell) = false) (hk3 : (kz == NameKind.cell) = false)
    (hnames : ∀ y ∈ ((⟨.function, [(x, kx), (v, .cell), (z1, ky), (z2, kz)], gen, cor, more⟩ : Scope)).names, y.2 = .local → ((⟨.function, [(x, kx), (v, .cell), (z1, ky), (z2, kz)], gen, cor, more⟩ : Scope)).names.lookup y.1 = some .local)
    (hy : env.kindOf y = some .local) (hp : (env.scope.kind == .class || (env.scope.kind == .module && env.locals != env.globals)) = false)
    (h : wpAny (model prog w) A (eval iter env) (fun xv s₁ => wpAny (model prog w) A (pyIter xv) (LcSrc1 prog w A h₀ L m env (.ListComp elt (⟨target, iter, ifs, 0⟩ :: gs) ⟨.function, [(x, kx), (v, .cell), (z1, ky), (z2, kz)], gen, cor, more⟩ pos) ⟨.function, [(x, kx), (v, .cell), (z1, ky), (z2, kz)], gen, cor, more⟩ v cl
      (fun s₂ D ys n news' => ∀ h'' tk, Fr h₀ L h'' (fun z => if z = y then some (.ref D) else m z) → News h₀ L h'' ((D, listOf ys.toArray n) :: news') → (∀ p ∈ news', p.1 ≠ D) → Q .next { s₂ with heap := h'', toks := tk })) E s₁) E s)
    (hs : ∀ x, foldedSetIterable iter env x = pure x := by intro _; rfl) :
    wpAny (model prog w) A (exec (.Assign [.Name y py] (.ListComp elt (⟨target, iter, ifs, 0⟩ :: gs) ⟨.function, [(x, kx), (v, .cell), (z1, ky), (z2, kz)], gen, cor, more⟩ pos) spos) env) Q E s := by
  rw [exec_Assign_Name_used _ _ _ _ hsw]
  refine wpAny_bind (wpAny_standAt (wpAny_bind ?_))
  show wpAny _ A (do let _ ← comprehension (.ListComp elt (⟨target, iter, ifs, 0⟩ :: gs) ⟨.function, [(x, kx), (v, .cell), (z1, ky), (z2, kz)], gen, cor, more⟩ pos) ⟨.function, [(x, kx), (v, .cell), (z1, ky), (z2, kz)], gen, cor, more⟩ env _ (newList []) false (eval iter env) (some (assign (.Name y py) env))) _ _ s
  refine wpAny_bind (wpAny_mono (wpAny_comprehension_free (use := some (assign (.Name y py) env)) (Q := fun _ s' => Q .next s') rfl hs hclos rfl hnames
    (wpAny_mono h (fun xv s₁ h₁ => wpAny_mono h₁ (fun it s₂ h₂ => ?_) fun _ _ e => e) fun _ _ e => e)) (fun _ s' hq => wpAny_pure (wpAny_pure hq)) fun _ _ e => e)
  obtain ⟨I, oI, news, rfl, F, N, hself, body⟩ := h₂
  exact lc_enter1 (RR := compPost (model prog w) A E (some (assign (.Name y py) env)) (fun _ s' => Q .next s')) rfl F N hk1 hk2 hk3 hself fun D C c oC oc h tk F' N' n1 n2 n3 n4 n5 n6 n7 n8 n9 => codeAny_mono (body D C c oC oc h tk F' N' n1 n2 n3 n4 n5 n6 n7 n8 n9) fun r s' hr => lc_postA hL hy hp hr
theorem lc_src_range1 {e : PySem.Expr} {scope : Scope} {v : Str} {cl : List (Str × Addr)} {Fin : Shared → Addr → List Value → Nat → List (Addr × Obj) → Prop} {r : Addr} {a b : Int} {t u v1 : Tok} {n : Int} {news : List (Addr × Obj)} {s₁ : Shared}
    (F : Fr h₀ L s₁.heap m) (N : News h₀ L s₁.heap news) (hr : IsRange s₁.heap r a b 1 t u v1) (hsm : Builtin.Range.small a b 1 = true) (hn : Builtin.Range.rangeSize a b 1 = n)
    (body : ∀ I D C c oC oc h tk (hh : Heap), Fr h₀ L h m → News h₀ L h ((c, oc) :: (C, oC) :: (D, listOf #[] 0) :: (I, riObj a n 1) :: news) → NsObj oC (fun _ => none) → oc.data = .cell none → C ≠ D → C ≠ I → D ≠ I → c ≠ C → c ≠ D → c ≠ I → (∀ p ∈ news, p.1 ≠ C ∧ p.1 ≠ D ∧ p.1 ≠ c) → (∀ p ∈ news, p.1 ≠ I) →
      codeAny (model prog w) A (.compLoop e 0 (.ref I) (.ref D) (compEnvC scope ((v, c) :: cl) C env)) (LcDone h₀ L m C D { s₁ with heap := hh } (Fin { s₁ with heap := hh } D)) { s₁ with heap := h, toks := tk }) :
    wpAny (model prog w) A (pyIter (.ref r)) (LcSrc1 prog w A h₀ L m env e scope v cl Fin) E s₁ := by
  refine wpAny_pyIter_range hr hsm ?_
  subst hn
  obtain ⟨F2, N2, ne2⟩ := led_new (o := riObj a (Builtin.Range.rangeSize a b 1) 1) F N rfl
  refine ⟨_, _, news, rfl, F2, N2, fun s' Q' E' hg hq => wpAny_pyIter_rangeiter hg hq, fun D C c oC oc h tk F' N' n1 n2 n3 n4 n5 n6 n7 n8 n9 => ?_⟩
  exact body _ D C c oC oc h tk _ F' N' n1 n2 n3 n4 n5 n6 n7 n8 n9 ne2
/-- the own name that is a cell is stored -/
theorem lc_storeCell {scope : Scope} {cl : List (Str × Addr)} {C c : Addr} {oc : Obj} {k : Option Value} {x : Str} {px : Pos} {v : Value} {rest : List (Addr × Obj)} {Q : Unit → Shared → Prop}
    (hk : (compEnvC scope cl C env).scope.kind = .function) (hx : (compEnvC scope cl C env).kindOf x = some .cell) (hc : cl.lookup x = some c) (F : Fr h₀ L s.heap m) (N : News h₀ L s.heap ((c, oc) :: rest)) (hne : ∀ p ∈ rest, p.1 ≠ c) (hd : oc.data = .cell k)
    (h : ∀ oc' h', oc'.data = .cell (some v) → Fr h₀ L h' m → News h₀ L h' ((c, oc') :: rest) → Q () { s with heap := h' }) :
    wpAny (model prog w) A (assign (.Name x px) (compEnvC scope cl C env) v) Q E s := by
  have z := (N _ (.head _)).1
  refine wpAny_assign_Name (wpAny_storeName_cell hk hx hc ⟨oc, z, hd⟩ fun h' hv hs => ?_)
  obtain ⟨oc', ho', hd'⟩ := hv
  have t := led_turn F N hne hs ho'
  exact h oc' h' hd' t.1 t.2
end
end
section
open PyProof.Rows.LCg (NsObj ns_obj)
section
variable {prog : Program} {w : World} {A : Around} {E : Value → Shared → Prop} {s₁ : Shared} {h₀ : Heap} {L : Addr} {m : Str → Option Value} {env : Env}

/-- one turn's element, which may make objects: what the reckoning of it leaves -/
noncomputable def EltG (h₀ : Heap) (L : Addr) (m : Str → Option Value) (s : Shared) (pre rest : List (Addr × Obj)) (J : List (Addr × Obj) → Value → Prop) (x : Value) (s' : Shared) : Prop :=
  ∃ h' tk fresh, s' = { s with heap := h', toks := tk } ∧ Fr h₀ L h' m ∧ News h₀ L h' (pre ++ (fresh ++ rest)) ∧ (∀ q ∈ fresh, Off q.1 (pre ++ rest)) ∧ J fresh x

theorem EltG.one {s : Shared} {pre rest l : List (Addr × Obj)} {J : List (Addr × Obj) → Value → Prop} {x : Value} {h' : Heap} {tk : Nat} {D : Addr} {o : Obj} (F : Fr h₀ L h' m) (N : News h₀ L h' ((D, o) :: l)) (hs : ∀ p ∈ pre ++ rest, p ∈ l) (hl : ∀ p ∈ pre ++ rest, p.1 < D) (hJ : J [(D, o)] x) :
    EltG h₀ L m s pre rest J x { s with heap := h', toks := tk } := by
  refine ⟨h', tk, [(D, o)], rfl, F, News.sub N fun p hp => ?_, fun q hq => ?_, hJ⟩
  · rcases List.mem_append.mp hp with h | h
    · exact .tail _ (hs p (List.mem_append_left _ h))
    · rcases List.mem_cons.mp h with h | h
      · rw [h]; exact .head _
      · exact .tail _ (hs p (List.mem_append_right _ h))
  · rw [List.mem_singleton] at hq
    subst hq
    exact fun p hp => Nat.ne_of_lt (hl p hp)
theorem EltG.to {s : Shared} {pre rest fresh : List (Addr × Obj)} {J : List (Addr × Obj) → Value → Prop} {x : Value} {h' : Heap} {tk : Nat} (F : Fr h₀ L h' m) (N : News h₀ L h' (pre ++ (fresh ++ rest))) (hf : ∀ q ∈ fresh, Off q.1 (pre ++ rest)) (hJ : J fresh x) :
    EltG h₀ L m s pre rest J x { s with heap := h', toks := tk } := ⟨h', tk, fresh, rfl, F, N, hf, hJ⟩
theorem lc_map_rangeG {elt iter : PySem.Expr} {y : Str} {py : Pos} {scope : Scope} {pos : Pos} {cl : List (Str × Addr)} {Fin : Shared → Addr → List Value → Nat → List (Addr × Obj) → Prop} {l : Addr} {k : Nat} {t0 t1 t2 : Tok} {news : List (Addr × Obj)}
    (J : Nat → List Value → List (Addr × Obj) → Prop) (hh : A.handled = none) (hy : scope.names.lookup y = some .local) (hkind : scope.kind = .function)
    (F : Fr h₀ L s₁.heap m) (N : News h₀ L s₁.heap news) (hl : IsRange s₁.heap l 0 k 1 t0 t1 t2) (hsm : Builtin.Range.small 0 (k : Nat) 1 = true) (hrs : Builtin.Range.rangeSize 0 (k : Nat) 1 = (k : Nat)) (hsz : k < 1000) (hJ : J 0 [] news) (hJl : ∀ i ys rest, J i ys rest → ys.length = i)
    (turn : ∀ i ys rest I oI C oC mc D ne h tk (ti : Tok), i < k → J i ys rest → Fr h₀ L h m → News h₀ L h ([(C, oC), (I, oI), (D, listOf ys.toArray ne)] ++ rest) → NsObj oC mc → mc y = some (.int (i : Int) ti) → (∀ p ∈ rest, p.1 ≠ C ∧ p.1 ≠ D ∧ p.1 ≠ I) → C ≠ I → D ≠ I → C ≠ D → ∀ (J' : List (Addr × Obj) → Value → Prop), (∀ fresh x, J (i + 1) (ys ++ [x]) (fresh ++ rest) → J' fresh x) → 
      wpAny (model prog w) A (eval elt (compEnvC scope cl C env)) (EltG h₀ L m { s₁ with heap := h, toks := tk } [(C, oC), (I, oI), (D, listOf ys.toArray ne)] rest J') noE { s₁ with heap := h, toks := tk })
    (fin : ∀ (hh : Heap) D ys n rest, J k ys rest → Fin { s₁ with heap := hh } D ys n rest) :
    wpAny (model prog w) A (pyIter (.ref l)) (LcSrc prog w A h₀ L m env (.ListComp elt [⟨.Name y py, iter, [], 0⟩] scope pos) scope cl Fin) E s₁ := by
  refine lc_src_range F N hl hsm hrs ?_
  rintro I D C oC h1 tk1 hh' F2 N2 hC nCD nCI nDI offCD offI
  refine lc_loop_G (fun n news₁ => Ex6 fun (i : Nat) (oC : Obj) (mc : Str → Option Value) (ys : List Value) (ne : Nat) (rest : List (Addr × Obj)) => i + n = k ∧ news₁ = ((I, riObj i n 1) :: (C, oC) :: (D, listOf ys.toArray ne) :: rest) ∧ NsObj oC mc ∧ (∀ p ∈ rest, p.1 ≠ C ∧ p.1 ≠ D ∧ p.1 ≠ I) ∧ J i ys rest) (n₀ := k)
    F2 (News.rot' N2) (Ex6.mk 0 oC _ ([]) 0 news ⟨by lia, rfl, hC, fun p hp => ⟨(offCD p hp).1, (offCD p hp).2, offI p hp⟩, hJ⟩) ?_
  clear F2 N2 hC oC offCD offI
  intro J1 R1 hJ1 hR1 n news₁ h2 tk2 F2 N2 hJJ
  refine hJJ _ fun i oC mc ys ne rest hAA => ?_
  refine and_on5 hAA fun hin hE1 hC off hJi => ?_
  clear hAA hJJ
  refine goal_G fun GG hGG => ?_
  subst hE1
  refine hGG ?_
  clear hGG GG
  have oI' : Off I ((C, oC) :: (D, listOf ys.toArray ne) :: rest) := Off.cons nCI (Off.cons nDI fun p hp => (off p hp).2.2)
  have oC' : Off C ((I, riObj i n 1) :: (D, listOf ys.toArray ne) :: rest) := Off.cons (Ne.symm nCI) (Off.cons (Ne.symm nCD) fun p hp => (off p hp).1)
  rcases n with _ | n
  · refine next_range_end hh F2 N2 oI' (by simp) ?_
    intro h3 F3 N3
    rw [Nat.add_zero] at hin
    subst hin
    exact hR1 _ _ (lcd (F3) (News.swap N3) (hC) (fun p hp => ⟨(off p hp).1, (off p hp).2.1⟩) (nCD) (fin _ _ _ _ _ hJi))
  · refine next_range F2 N2 oI' (by lia) ?_
    rw [show ((n + 1 : Nat) : Int) - 1 = (n : Int) from rng_c n, show (i : Int) + 1 = ((i + 1 : Nat) : Int) from rfl]
    intro h3 F3 N3
    dsimp only
    have oC3 : Off C ((I, riObj (i + 1 : Nat) n 1) :: (D, listOf ys.toArray ne) :: rest) := Off.cons (Ne.symm nCI) (Off.cons (Ne.symm nCD) fun p hp => (off p hp).1)
    refine lc_store hy hkind F3 (News.swap N3) hC oC3 ?_
    intro oC4 h4 hC4 F4 N4
    refine wpAny_tests_nil ?_
    refine ifT rfl ?_
    refine wpAny_mono (turn i ys rest I _ C oC4 _ D ne h4 _ _ (by lia) hJi F4 N4 hC4 (if_pos rfl) off nCI nDI nCD _ (fun _ _ h => h)) ?_ fun _ _ x => x.elim
    intro x s' hPP
    refine goal_G fun GG hGG => ?_
    obtain ⟨h5, tk5, fresh, rfl, F5, N5, hfr, hJ5⟩ := hPP
    refine hGG ?_
    clear hGG GG
    have off' : ∀ p ∈ fresh ++ rest, p.1 ≠ C ∧ p.1 ≠ D ∧ p.1 ≠ I := fun p hp => by
      rcases List.mem_append.mp hp with hp | hp
      · have q := hfr p hp
        exact ⟨Ne.symm (q (C, oC4) (.head _)), Ne.symm (q (D, listOf ys.toArray ne) (.tail _ (.tail _ (.head _)))), Ne.symm (q (I, riObj (i + 1 : Nat) n 1) (.tail _ (.head _)))⟩
      · exact off p hp
    have N6 : News h₀ L h5 ((D, listOf ys.toArray ne) :: (I, riObj (i + 1 : Nat) n 1) :: (C, oC4) :: (fresh ++ rest)) := News.sub N5 fun p hp => by
      revert p
      repeat' (first | with_reducible exact sub_nil | with_reducible exact sub_self | with_reducible exact List.mem_cons_self | with_reducible refine sub_cons ?_ ?_ | with_reducible refine sub_app ?_ ?_ | with_reducible refine List.mem_cons_of_mem _ ?_ | (with_reducible refine List.mem_append_left _ ?_; (repeat (first | with_reducible exact List.mem_cons_self | with_reducible refine List.mem_cons_of_mem _ ?_)); done) | with_reducible refine List.mem_append_right _ ?_ | with_reducible refine sub_tl ?_ | with_reducible exact sub_apl sub_self | with_reducible refine sub_apr ?_)
    refine lc_append F5 N6 (Off.cons (Ne.symm nDI) (Off.cons nCD fun p hp => (off' p hp).2.1)) (by rw [hJl _ _ _ hJi]; lia) ?_
    intro h7 F7 N7
    refine lcs (n' := n) (F7) (News.sub N7 fun p hp => ?_) (Nat.lt_succ_self _) (hJ1 _ _ (Ex6.mk (i + 1) oC4 _ (ys ++ [x]) (ne + 1) (fresh ++ rest) ⟨by lia, rfl, hC4, off', hJ5⟩))
    revert p
    repeat' (first | with_reducible exact sub_nil | with_reducible exact sub_self | with_reducible exact List.mem_cons_self | with_reducible refine sub_cons ?_ ?_ | with_reducible refine sub_app ?_ ?_ | with_reducible refine List.mem_cons_of_mem _ ?_ | (with_reducible refine List.mem_append_left _ ?_; (repeat (first | with_reducible exact List.mem_cons_self | with_reducible refine List.mem_cons_of_mem _ ?_)); done) | with_reducible refine List.mem_append_right _ ?_ | with_reducible refine sub_tl ?_ | with_reducible exact sub_apl sub_self | with_reducible refine sub_apr ?_)

/-- the same, the own name a cell -/
theorem lc_map_range1G {elt iter : PySem.Expr} {v : Str} {py : Pos} {scope : Scope} {pos : Pos} {cl : List (Str × Addr)} {Fin : Shared → Addr → List Value → Nat → List (Addr × Obj) → Prop} {l : Addr} {k : Nat} {t0 t1 t2 : Tok} {news : List (Addr × Obj)}
    (J : Nat → List Value → List (Addr × Obj) → Prop) (hh : A.handled = none) (hx : ∀ cl C, (compEnvC scope cl C env).kindOf v = some .cell) (hkind : scope.kind = .function)
    (F : Fr h₀ L s₁.heap m) (N : News h₀ L s₁.heap news) (hl : IsRange s₁.heap l 0 k 1 t0 t1 t2) (hsm : Builtin.Range.small 0 (k : Nat) 1 = true) (hrs : Builtin.Range.rangeSize 0 (k : Nat) 1 = (k : Nat)) (hsz : k < 1000) (hJ : J 0 [] news) (hJl : ∀ i ys rest, J i ys rest → ys.length = i)
    (turn : ∀ i ys rest I oI C oC mc c oc D ne h tk (ti : Tok), i < k → J i ys rest → Fr h₀ L h m → News h₀ L h ([(c, oc), (C, oC), (I, oI), (D, listOf ys.toArray ne)] ++ rest) → NsObj oC mc → oc.data = .cell (some (.int (i : Int) ti)) → (∀ p ∈ rest, p.1 ≠ C ∧ p.1 ≠ D ∧ p.1 ≠ I ∧ p.1 ≠ c) → C ≠ I → D ≠ I → C ≠ D → c ≠ C → c ≠ D → c ≠ I → ∀ (J' : List (Addr × Obj) → Value → Prop), (∀ fresh x, J (i + 1) (ys ++ [x]) (fresh ++ rest) → J' fresh x) → 
      wpAny (model prog w) A (eval elt (compEnvC scope ((v, c) :: cl) C env)) (EltG h₀ L m { s₁ with heap := h, toks := tk } [(c, oc), (C, oC), (I, oI), (D, listOf ys.toArray ne)] rest J') noE { s₁ with heap := h, toks := tk })
    (fin : ∀ (hh : Heap) D ys n rest, J k ys rest → Fin { s₁ with heap := hh } D ys n rest) :
    wpAny (model prog w) A (pyIter (.ref l)) (LcSrc1 prog w A h₀ L m env (.ListComp elt [⟨.Name v py, iter, [], 0⟩] scope pos) scope v cl Fin) E s₁ := by
  refine lc_src_range1 F N hl hsm hrs ?_
  rintro I D C c oC oc h1 tk1 hh' F2 N2 hC hc nCD nCI nDI ncC ncD ncI offCD offI
  have N2' : News h₀ L h1 ((I, riObj 0 k 1) :: (C, oC) :: (D, listOf #[] 0) :: (c, oc) :: news) := News.sub N2 fun p hp => by
    revert p
    repeat' (first | with_reducible exact sub_nil | with_reducible exact sub_self | with_reducible exact List.mem_cons_self | with_reducible refine sub_cons ?_ ?_ | with_reducible refine sub_app ?_ ?_ | with_reducible refine List.mem_cons_of_mem _ ?_ | (with_reducible refine List.mem_append_left _ ?_; (repeat (first | with_reducible exact List.mem_cons_self | with_reducible refine List.mem_cons_of_mem _ ?_)); done) | with_reducible refine List.mem_append_right _ ?_ | with_reducible refine sub_tl ?_ | with_reducible exact sub_apl sub_self | with_reducible refine sub_apr ?_)
  refine lc_loop_G (fun n news₁ => Ex8 fun (i : Nat) (oC oc : Obj) (kc : Option Value) (mc : Str → Option Value) (ys : List Value) (ne : Nat) (rest : List (Addr × Obj)) => i + n = k ∧ news₁ = ((I, riObj i n 1) :: (C, oC) :: (D, listOf ys.toArray ne) :: (c, oc) :: rest) ∧ NsObj oC mc ∧ oc.data = .cell kc ∧ (∀ p ∈ rest, p.1 ≠ C ∧ p.1 ≠ D ∧ p.1 ≠ I ∧ p.1 ≠ c) ∧ J i ys rest) (n₀ := k)
    F2 N2' (Ex8.mk 0 oC oc _ _ ([]) 0 news ⟨by lia, rfl, hC, hc, fun p hp => ⟨(offCD p hp).1, (offCD p hp).2.1, offI p hp, (offCD p hp).2.2⟩, hJ⟩) ?_
  clear F2 N2 N2' hC hc oc oC offCD offI
  intro J2 R2 hJ2 hR2 n news₁ h2 tk2 F2 N2 hJJ
  refine hJJ _ fun i oC oc kc mc ys ne rest hAA => ?_
  refine and_on6 hAA fun hin hE1 hC hc off hJi => ?_
  clear hAA hJJ
  refine goal_G fun GG hGG => ?_
  subst hE1
  refine hGG ?_
  clear hGG GG
  have oI' : Off I ((C, oC) :: (D, listOf ys.toArray ne) :: (c, oc) :: rest) := Off.cons nCI (Off.cons nDI (Off.cons ncI fun p hp => (off p hp).2.2.1))
  rcases n with _ | n
  · refine next_range_end hh F2 N2 oI' (by simp) ?_
    intro h3 F3 N3
    rw [Nat.add_zero] at hin
    subst hin
    refine hR2 _ _ (lcd (n := ne) (F3) (News.sub N3 fun p hp => ?_) (hC) (fun p hp => ⟨(off p hp).1, (off p hp).2.1⟩) (nCD) (fin _ _ _ _ _ hJi))
    revert p
    repeat' (first | with_reducible exact sub_nil | with_reducible exact sub_self | with_reducible exact List.mem_cons_self | with_reducible refine sub_cons ?_ ?_ | with_reducible refine sub_app ?_ ?_ | with_reducible refine List.mem_cons_of_mem _ ?_ | (with_reducible refine List.mem_append_left _ ?_; (repeat (first | with_reducible exact List.mem_cons_self | with_reducible refine List.mem_cons_of_mem _ ?_)); done) | with_reducible refine List.mem_append_right _ ?_ | with_reducible refine sub_tl ?_ | with_reducible exact sub_apl sub_self | with_reducible refine sub_apr ?_)
  · refine next_range F2 N2 oI' (by lia) ?_
    rw [show ((n + 1 : Nat) : Int) - 1 = (n : Int) from rng_c n, show (i : Int) + 1 = ((i + 1 : Nat) : Int) from rfl]
    intro h3 F3 N3
    dsimp only
    have N3' : News h₀ L h3 ((c, oc) :: (C, oC) :: (I, riObj (i + 1 : Nat) n 1) :: (D, listOf ys.toArray ne) :: rest) := News.sub N3 fun p hp => by
      revert p
      repeat' (first | with_reducible exact sub_nil | with_reducible exact sub_self | with_reducible exact List.mem_cons_self | with_reducible refine sub_cons ?_ ?_ | with_reducible refine sub_app ?_ ?_ | with_reducible refine List.mem_cons_of_mem _ ?_ | (with_reducible refine List.mem_append_left _ ?_; (repeat (first | with_reducible exact List.mem_cons_self | with_reducible refine List.mem_cons_of_mem _ ?_)); done) | with_reducible refine List.mem_append_right _ ?_ | with_reducible refine sub_tl ?_ | with_reducible exact sub_apl sub_self | with_reducible refine sub_apr ?_)
    have oc3 : Off c ((C, oC) :: (I, riObj (i + 1 : Nat) n 1) :: (D, listOf ys.toArray ne) :: rest) := Off.cons (Ne.symm ncC) (Off.cons (Ne.symm ncI) (Off.cons (Ne.symm ncD) fun p hp => (off p hp).2.2.2))
    refine lc_storeCell hkind (hx _ _) (by simp) F3 N3' oc3 hc ?_
    intro oc4 h4 hc4 F4 N4
    refine wpAny_tests_nil ?_
    refine ifT rfl ?_
    refine wpAny_mono (turn i ys rest I _ C oC _ c oc4 D ne h4 _ _ (by lia) hJi F4 N4 hC hc4 off nCI nDI nCD ncC ncD ncI _ (fun _ _ h => h)) ?_ fun _ _ x => x.elim
    intro x s' hPP
    refine goal_G fun GG hGG => ?_
    obtain ⟨h5, tk5, fresh, rfl, F5, N5, hfr, hJ5⟩ := hPP
    refine hGG ?_
    clear hGG GG
    have off' : ∀ p ∈ fresh ++ rest, p.1 ≠ C ∧ p.1 ≠ D ∧ p.1 ≠ I ∧ p.1 ≠ c := fun p hp => by
      rcases List.mem_append.mp hp with hp | hp
      · have q := hfr p hp
        exact ⟨Ne.symm (q (C, oC) (.tail _ (.head _))), Ne.symm (q (D, listOf ys.toArray ne) (.tail _ (.tail _ (.tail _ (.head _))))), Ne.symm (q (I, riObj (i + 1 : Nat) n 1) (.tail _ (.tail _ (.head _)))), Ne.symm (q (c, oc4) (.head _))⟩
      · exact off p hp
    have N6 : News h₀ L h5 ((D, listOf ys.toArray ne) :: (I, riObj (i + 1 : Nat) n 1) :: (C, oC) :: (c, oc4) :: (fresh ++ rest)) := News.sub N5 fun p hp => by
      revert p
      repeat' (first | with_reducible exact sub_nil | with_reducible exact sub_self | with_reducible exact List.mem_cons_self | with_reducible refine sub_cons ?_ ?_ | with_reducible refine sub_app ?_ ?_ | with_reducible refine List.mem_cons_of_mem _ ?_ | (with_reducible refine List.mem_append_left _ ?_; (repeat (first | with_reducible exact List.mem_cons_self | with_reducible refine List.mem_cons_of_mem _ ?_)); done) | with_reducible refine List.mem_append_right _ ?_ | with_reducible refine sub_tl ?_ | with_reducible exact sub_apl sub_self | with_reducible refine sub_apr ?_)
    refine lc_append F5 N6 (Off.cons (Ne.symm nDI) (Off.cons nCD (Off.cons ncD fun p hp => (off' p hp).2.1))) (by rw [hJl _ _ _ hJi]; lia) ?_
    intro h7 F7 N7
    refine lcs (n' := n) (F7) (News.sub N7 fun p hp => ?_) (Nat.lt_succ_self _) (hJ2 _ _ (Ex8.mk (i + 1) oC oc4 _ _ (ys ++ [x]) (ne + 1) (fresh ++ rest) ⟨by lia, rfl, hC, hc4, off', hJ5⟩))
    revert p
    repeat' (first | with_reducible exact sub_nil | with_reducible exact sub_self | with_reducible exact List.mem_cons_self | with_reducible refine sub_cons ?_ ?_ | with_reducible refine sub_app ?_ ?_ | with_reducible refine List.mem_cons_of_mem _ ?_ | (with_reducible refine List.mem_append_left _ ?_; (repeat (first | with_reducible exact List.mem_cons_self | with_reducible refine List.mem_cons_of_mem _ ?_)); done) | with_reducible refine List.mem_append_right _ ?_ | with_reducible refine sub_tl ?_ | with_reducible exact sub_apl sub_self | with_reducible refine sub_apr ?_)
end
end
section
noncomputable def lawOf : Option (List Stmt × Scope) := match PySem.Challenge.pw_pg0112_01.main.body.getLast? with
  | some (.FunctionDef _ _ body _ _ _ scope _ _ _) => some (body, scope)
  | _ => none
noncomputable def lawB : List Stmt := match lawOf with | some x => x.1 | none => []
noncomputable def lawS : Scope := match lawOf with | some x => x.2 | none => default
theorem cells_five {cm : Str → Option Value} {n₁ n₂ n₃ n₄ n₅ : Str} {c₁ c₂ c₃ c₄ c₅ : Addr} {cells : List (Addr × Obj)} (x : CellsAre cm [(n₁, c₁), (n₂, c₂), (n₃, c₃), (n₄, c₄), (n₅, c₅)] cells) :
    ∃ o₁ o₂ o₃ o₄ o₅, cells = [(c₁, o₁), (c₂, o₂), (c₃, o₃), (c₄, o₄), (c₅, o₅)] ∧ o₁.data = .cell (cm n₁) ∧ o₂.data = .cell (cm n₂) ∧ o₃.data = .cell (cm n₃) ∧ o₄.data = .cell (cm n₄) ∧ o₅.data = .cell (cm n₅) := by
  cases x with | cons h r => obtain ⟨o₂, o₃, o₄, o₅, rfl, h₂, h₃, h₄, h₅⟩ := r.four; exact ⟨_, o₂, o₃, o₄, o₅, rfl, h, h₂, h₃, h₄, h₅⟩
theorem ints_snoc {ys : List Value} {zs : List Int} {i : Nat} {v : Int} {t : Tok} (h : IntsAre ys (zs.take i)) (hi : i < zs.length) (hv : zs.getD i 0 = v) : IntsAre (ys ++ [.int v t]) (zs.take (i + 1)) := by
  rw [List.take_succ, List.getElem?_eq_getElem hi]
  have : zs[i] = v := by rw [← hv, List.getD_eq_getElem?_getD, List.getElem?_eq_getElem hi]; rfl
  rw [this]
  exact h.append (.cons v t .nil)
theorem ints_getD_map {zs : List Int} {f : Int → Int} {i : Nat} (hi : i < zs.length) : (zs.map f).getD i 0 = f (zs.getD i 0) := by
  rw [List.getD_eq_getElem?_getD, List.getD_eq_getElem?_getD, List.getElem?_map, List.getElem?_eq_getElem hi]; rfl
theorem take7 {w : World} {A : Around} {E : Value → Shared → Prop} {h₀ h₁ : Heap} {s : Shared} {L l : Addr} {m : Str → Option Value} {news : List (Addr × Obj)} {vs : List Value} {Q : Value → Shared → Prop} {t : Tok} {toks : Nat} {p1 p2 p3 : Pos}
    (F : Fr h₀ L h₁ m) (N : News h₀ L h₁ news) (hl : h₁.IsList l vs.toArray) (hz : vs.length ≤ sizeLine)
    (h : ∀ D h', Fr h₀ L h' m → News h₀ L h' ((D, listOf (vs.take 7).toArray 0) :: news) → (∀ p ∈ news, p.1 < D) → Q (.ref D) { s with heap := h', toks := toks }) :
    wpAny (model PySem.Challenge.rw_pg0112_01.row.prog w) A (subscriptTail (Expr.Name "script" p1) (Expr.Slice none (some (Expr.Constant (Const.int 7) 0 p2)) none p3) (.ref l) (.ref h₁.objs.size)) Q E { s with heap := h₁.push { cls := .type "slice", data := .fields #[.none, .int 7 t, .none] }, toks := toks } := by
  k_dflt (refine' kms_slice_lit (s := { s with heap := h₁, toks := toks }) (zs := vs.take 7) (lo := none) (hi := some 7) ?F ?N ?l ?p ?q ?e ?_ ?s ?t ?z)
  case F => exact F
  case N => exact N
  case l => exact hl
  case p => kmk_part
  case q => kmk_part
  case s => with_unfolding_all rfl
  case t => kmk_pure
  case z => rw [List.size_toArray]; exact hz
  case e =>
    unfold kms_pick
    show (vs.drop 0).take (min 7 vs.length - 0) = _
    rw [List.drop_zero, Nat.sub_zero, ← List.take_eq_take_min]
  exact h
theorem from_k {w : World} {A : Around} {E : Value → Shared → Prop} {h₀ h₁ : Heap} {s : Shared} {L l : Addr} {m : Str → Option Value} {news : List (Addr × Obj)} {its : Array Value} {Q : Value → Shared → Prop} {t : Tok} {toks k : Nat} {value slice : PySem.Expr}
    (F : Fr h₀ L h₁ m) (N : News h₀ L h₁ news) (hl : h₁.IsList l its) (hz : its.size ≤ sizeLine)
    (h : ∀ D h', Fr h₀ L h' m → News h₀ L h' ((D, listOf (its.toList.drop k).toArray 0) :: news) → (∀ p ∈ news, p.1 < D) → Q (.ref D) { s with heap := h', toks := toks })
    (hs : subscripted slice false (.ref l) (.ref h₁.objs.size) = operate [.ref h₁.objs.size, .ref l] (getItem (.ref l) (.ref h₁.objs.size))) :
    wpAny (model PySem.Challenge.rw_pg0112_01.row.prog w) A (subscriptTail value slice (.ref l) (.ref h₁.objs.size)) Q E { s with heap := h₁.push { cls := .type "slice", data := .fields #[.int k t, .none, .none] }, toks := toks } := by
  refine kba_turn (value' := PySem.Expr.Name (PySem.Str.ofString "_") ⟨0, 0, 0, 0⟩) (fun _ => rfl) ?_
  k_dflt (refine' kms_slice_lit (s := { s with heap := h₁, toks := toks }) (zs := its.toList.drop k) (lo := some k) (hi := none) ?F ?N ?l ?p ?q ?e ?_ ?s ?t ?z)
  case F => exact F
  case N => exact N
  case l => exact hl
  case p => kmk_part
  case q => kmk_part
  case s => exact hs
  case t => kmk_pure
  case z => exact hz
  case e =>
    unfold kms_pick
    have e1 : kms_lo (some (k : Int)) its.toList.length = min k its.toList.length := by unfold kms_lo; simp; lia
    have e2 : kms_hi none its.toList.length = its.toList.length := rfl
    rw [e1, e2, List.take_of_length_le (by rw [List.length_drop]; exact Nat.le_refl _)]
    by_cases hk : k ≤ its.toList.length
    · rw [Nat.min_eq_left hk]
    · rw [Nat.min_eq_right (by lia), List.drop_eq_nil_of_le (Nat.le_refl _), List.drop_eq_nil_of_le (by lia)]
  exact h
/-- the numbers drawn -/
noncomputable def drawnOf (xs : List Int) : List Int := (xs.take 7).map (· % 288) ++ ([5, 164, 236, 69, 40, 194, 126] : List Int).drop (xs.take 7).length
/-- the places of the law's cells, and of the nested codes -/
noncomputable abbrev cellsA (L : Addr) : List Addr := [L + 1 + 1 + 1 + 1 + 1, L + 1 + 1 + 1 + 1, L + 1 + 1 + 1, L + 1 + 1, L + 1, 93]
/-- the word of a number drawn -/
noncomputable def wordN (x : Int) : List Nat := wordOf (x % 48).toNat (x / 48 % 2).toNat
theorem word_tab : ∀ pl, pl < 48 → ∀ g, g < 2 → ((wordOf pl g).length = 3 ∧ ∀ d ∈ wordOf pl g, 48 ≤ d ∧ d ≤ 57) := by decide +kernel
theorem wordN_len (x : Int) : (wordN x).length = 3 := (word_tab _ (by lia) _ (by lia)).1
theorem wordN_dig (x : Int) : ∀ d ∈ wordN x, isDig d := (word_tab _ (by lia) _ (by lia)).2
/-- the text -/
noncomputable def segN (x : Int) : List Nat := spelled (wordN x) (x / 96).toNat
noncomputable def textN (dr : List Int) : List Nat := (dr.map segN).flatten
theorem ints_at {us : List Value} {dr : List Int} (hus : IntsAre us dr) {i : Nat} (hi : i < us.length) : ∃ t, us.getD i .none = .int (dr.getD i 0) t :=
  hus.int_at i (us.getD i .none) (by rw [List.getD_eq_getElem?_getD, List.getElem?_eq_getElem hi]; rfl)
theorem strs_at : ∀ {vs : List Value} {ys : List Str}, StrsAre vs ys → ∀ i, i < vs.length → ∃ t, vs.getD i .none = .str (ys.getD i default) t
  | _, _, .cons x t h, 0, _ => ⟨t, rfl⟩
  | _, _, .cons x t h, i + 1, hi => strs_at h i (Nat.lt_of_succ_lt_succ hi)
theorem getD_mem0 {dr : List Int} {i : Nat} (hi : i < dr.length) : dr.getD i 0 ∈ dr := by rw [List.getD_eq_getElem?_getD, List.getElem?_eq_getElem hi]; exact List.getElem_mem _
theorem getD_map0 {α : Type} {f : Int → α} {d : α} {dr : List Int} {i : Nat} (hi : i < dr.length) : (dr.map f).getD i d = f (dr.getD i 0) := by
  rw [List.getD_eq_getElem?_getD, List.getD_eq_getElem?_getD, List.getElem?_map, List.getElem?_eq_getElem hi]; rfl
theorem take_map_succ {α : Type} {f : Int → α} {dr : List Int} {i : Nat} (hi : i < dr.length) : (dr.map f).take (i + 1) = (dr.map f).take i ++ [f (dr.getD i 0)] := by
  rw [List.take_add_one, List.getElem?_map, List.getD_eq_getElem?_getD, List.getElem?_eq_getElem hi]; rfl
end
section
theorem law_1 {w : World} {g : Heap} {L fa : Addr} {cd : Value} {s : Shared} {p : Program} {loose : List Str} {mean : ExcName → Option Value} {mg mb : Str → Option Value} {Q : Flow → Shared → Prop} {E : Value → Shared → Prop} {l : Addr} {vs : List Value} {xs : List Int} {cells : List (Addr × Obj)}
    (B : Below callerA g [] g) (F : Fr g L s.heap (bindL (envOfC "law" lawS L fa cd).kindOf [("script", .ref l)] fun _ => none)) (X₀ : (Mine.hd.heap_1 w.params).In g) (T : Top p loose mean mg mb g)
    (N : News g L s.heap (cells ++ [(93, tabObj #[])])) (Y : CellsAre (bindC (envOfC "law" lawS L fa cd).kindOf [("script", .ref l)] fun _ => none) (cellsFrom (L + 1) lawS.names []) cells) (l93 : 93 < L) (hl : g.IsList l vs.toArray) (hI : IntsAre vs xs) (hx63 : xs.length ≤ 63)
    (h : ∀ h' tk' u DR us n c1 c2 c3 c4 c5 k1 k2 k3 k4, Fr g L h' (kstB u [("script", .ref l)]) → News g L h' ((DR, listOf us.toArray n) :: (L + 1 + 1 + 1 + 1 + 1, c1) :: (L + 1 + 1 + 1 + 1, c2) :: (L + 1 + 1 + 1, c3) :: (L + 1 + 1, c4) :: (L + 1, c5) :: [(93, tabObj #[])]) →
      L + 1 + 1 + 1 + 1 + 1 < DR → c1.data = .cell k1 → c2.data = .cell k2 → c3.data = .cell k3 → c4.data = .cell k4 → c5.data = .cell (some (.ref DR)) → IntsAre us (drawnOf xs) → 
      wpAny (model PySem.Challenge.rw_pg0112_01.row.prog w) (callerA.deeper (envOfC "law" lawS L fa cd)) (execs (lawB.drop 1) (envOfC "law" lawS L fa cd)) Q E { s with heap := h', toks := tk' }) :
    wpAny (model PySem.Challenge.rw_pg0112_01.row.prog w) (callerA.deeper (envOfC "law" lawS L fa cd)) (execs lawB (envOfC "law" lawS L fa cd)) Q E s := by
  have eS : lawS = lawS := rfl
  conv at eS => rhs; whnf
  have eB : lawB = lawB := rfl
  conv at eB => rhs; whnf
  rw [eB] at h ⊢
  rw [eS] at F Y h ⊢
  dsimp only [List.drop] at h
  clear eB eS

  revert X₀; k_fill; intro X₀
  first | refine Exists.elim (Fr.some F [("script", .ref l)] ⟨rfl, trivial⟩) fun u F1 => ?_ | refine and_on2 (Fr.some F [("script", .ref l)] ⟨rfl, trivial⟩) fun u F1 => ?_
  clear F
  refine goal_G fun GG hGG => ?_
  obtain ⟨c1, c2, c3, c4, c5, hE, d1, d2, d3, d4, d5⟩ := cells_five Y
  refine hGG ?_
  clear hGG GG
  subst hE
  clear Y
  simp only [List.cons_append, List.nil_append] at N
  walk
  refine LC_eval (h₀ := g) (L := L) (m := kstB u [("script", .ref l)]) (by rfl) (by decide) rfl (by decide) ?_
  walk
  refine take7 (s := s) F1 N (Fr.lst F1 hl) (by rw [hI.length, sizeLine_eq]; lia) ?_
  intro S7 h7 F7 N7 l7
  try dsimp only
  have hI7 : IntsAre (vs.take 7) (xs.take 7) := hI.take 7
  have hl7 : (vs.take 7).length ≤ 7 := by rw [List.length_take]; lia
  refine lc_map_list (vs := vs.take 7) (fun i ys rest => rest = (S7, listOf (vs.take 7).toArray 0) :: (L + 1 + 1 + 1 + 1 + 1, c1) :: (L + 1 + 1 + 1 + 1, c2) :: (L + 1 + 1 + 1, c3) :: (L + 1 + 1, c4) :: (L + 1, c5) :: [(93, tabObj #[])] ∧ i ≤ (vs.take 7).length ∧ IntsAre ys (((xs.take 7).map (· % 288)).take i))
    rfl rfl rfl F7 N7 (N7.isList (.head _)) (by lia) ⟨rfl, Nat.zero_le _, .nil⟩ ?_ ?_ ?_ ?_
  · intro i ys rest hPP
    refine goal_G fun GG hGG => ?_
    obtain ⟨rfl, hi, hys⟩ := hPP
    refine hGG ?_
    clear hGG GG
    have := hys.length
    rw [List.length_take, List.length_map, ← hI7.length] at this
    lia
  · intro i ys rest h hPP _ N
    refine goal_G fun GG hGG => ?_
    obtain ⟨rfl, hi, hys⟩ := hPP
    refine hGG ?_
    clear hGG GG
    exact N.isList (.head _)
  · intro i ys rest I oI C oC mc D ne h tk hi hPP F8 N8 hC hx Jt hJt
    refine and_on3 hPP fun hre hi' hys => ?_
    clear hPP
    rw [hre] at N8
    first | refine Exists.elim (hI7.int_at i ((vs.take 7).getD i .none) (by rw [List.getD_eq_getElem?_getD, List.getElem?_eq_getElem hi]; rfl)) fun t hv => ?_ | refine and_on2 (hI7.int_at i ((vs.take 7).getD i .none) (by rw [List.getD_eq_getElem?_getD, List.getElem?_eq_getElem hi]; rfl)) fun t hv => ?_
    rw [hv] at hx
    iterate 10 (try (walk1; try dsimp only))
    refine EltDone.same F8 (by rw [hre]; exact N8) (hJt _ _ ⟨hre, by lia, ints_snoc hys (by rw [List.length_map, ← hI7.length]; exact hi) ?_⟩)
    rw [ints_getD_map (by rw [← hI7.length]; exact hi), Int.fmod_eq_emod_of_nonneg _ (by decide)]
  intro hh D ys n rest hPP h9 tk9 F9 N9 o9
  refine goal_G fun GG hGG => ?_
  obtain ⟨rfl, _, hys⟩ := hPP
  refine hGG ?_
  clear hGG GG
  rw [List.take_of_length_le (by rw [List.length_map, ← hI7.length]; exact Nat.le_refl _)] at hys
  clear F7 N7
  walk
  rename Fr g L _ _ => F10
  rename News g L _ _ => N10
  refine take7 (s := s) F10 N10 (Fr.lst F10 hl) (by rw [hI.length, sizeLine_eq]; lia) ?_
  intro S8 h11 F11 N11 l11
  walk
  refine len_list (items := (vs.take 7).toArray) ?_ (by rw [List.size_toArray]; exact Int.lt_of_le_of_lt (Int.ofNat_le.mpr hl7) (by decide)) ?_
  · exact N11.isList (.head _)
  rw [List.size_toArray]
  generalize hk7 : (vs.take 7).length = k7
  walk
  refine from_k (s := s) F11 N11 (N11.isList (.tail _ (.head _))) (by show 7 ≤ sizeLine; rw [sizeLine_eq]; decide) ?_ (by with_unfolding_all rfl)
  intro S9 h12 F12 N12 l12
  try dsimp only
  refine kmk_add_ints (vs := ys) (ws := (#[Value.int 5 _, Value.int 164 _, Value.int 236 _, Value.int 69 _, Value.int 40 _, Value.int 194 _, Value.int 126 _].toList.drop k7)) (ms := ([5, 164, 236, 69, 40, 194, 126] : List Int).drop k7) F12 N12 (N12.isList (.tail _ (.tail _ (.tail _ (.head _))))) (N12.isList (.head _)) hys (IntsAre.drop (.cons _ _ (.cons _ _ (.cons _ _ (.cons _ _ (.cons _ _ (.cons _ _ (.cons _ _ .nil))))))) k7) ?_ ?_
  · intro DR us h13 F13 N13 l13 hus
    have N14 : News g L h13 ((DR, listOf us.toArray 0) :: (L + 1 + 1 + 1 + 1 + 1, c1) :: (L + 1 + 1 + 1 + 1, c2) :: (L + 1 + 1 + 1, c3) :: (L + 1 + 1, c4) :: (L + 1, c5) :: [(93, tabObj #[])]) := News.sub N13 fun p hp => by
      revert p
      repeat' (first | with_reducible exact sub_nil | with_reducible exact sub_self | with_reducible exact List.mem_cons_self | with_reducible refine sub_cons ?_ ?_ | with_reducible refine sub_app ?_ ?_ | with_reducible refine List.mem_cons_of_mem _ ?_ | (with_reducible refine List.mem_append_left _ ?_; (repeat (first | with_reducible exact List.mem_cons_self | with_reducible refine List.mem_cons_of_mem _ ?_)); done) | with_reducible refine List.mem_append_right _ ?_ | with_reducible refine sub_tl ?_ | with_reducible exact sub_apl sub_self | with_reducible refine sub_apr ?_)
    clear N13 N12 F12
    have lDR : @LT.lt Nat _ (L + 1 + 1 + 1 + 1 + 1) DR := l13 (L + 1 + 1 + 1 + 1 + 1, c1) (by simp)
    walk
    have ne : ∀ {a b : Nat}, b < a → a ≠ b := fun h => Nat.ne_of_gt h
    have l93' : @LT.lt Nat _ 93 L := l93
    refine storeX_C F13 N14 rfl (UpdF.tail (ne (by lia)) (UpdF.tail (ne (by lia)) (UpdF.tail (ne (by lia)) (UpdF.tail (ne (by lia)) (UpdF.tail (ne (by lia)) (UpdF.head (Off.cons (Nat.ne_of_lt (by lia)) (fun _ h => nomatch h)))))))) d5 ?_
    intro h15 c5' F15 N15 d5'
    exact h _ _ _ _ _ _ _ _ _ _ _ _ _ _ _ F15 N15 lDR d1 d2 d3 d4 d5' (by unfold drawnOf; rw [← hI7.length, hk7]; exact hus)
  · have := hI7.length
    rw [List.length_map, List.length_drop, sizeLine_eq]
    simp only [List.length_cons, List.length_nil]
    lia
end
section
theorem law_2 {w : World} {g : Heap} {L fa : Addr} {cd : Value} {s : Shared} {p : Program} {loose : List Str} {mean : ExcName → Option Value} {mg mb : Str → Option Value} {Q : Flow → Shared → Prop} {E : Value → Shared → Prop} {u : Str → Option Value} {DR : Addr} {us : List Value} {dr : List Int} {n : Nat} {c1 c2 c3 c4 c5 : Obj} {k4 : Option Value}
    (B : Below callerA g [] g) (F : Fr g L s.heap (kstB u [])) (X₀ : (Mine.hd.heap_1 w.params).In g) (T : Top p loose mean mg mb g)
    (N : News g L s.heap ((DR, listOf us.toArray n) :: (L + 1 + 1 + 1 + 1 + 1, c1) :: (L + 1 + 1 + 1 + 1, c2) :: (L + 1 + 1 + 1, c3) :: (L + 1 + 1, c4) :: (L + 1, c5) :: [(93, tabObj #[])])) (l93 : 93 < L)
    (oDR : ∀ x ∈ cellsA L, x ≠ DR) (d4 : c4.data = .cell k4) (d5 : c5.data = .cell (some (.ref DR))) (hus : IntsAre us dr) (h7 : dr.length = 7) (hdr : ∀ x ∈ dr, 0 ≤ x ∧ x < 288)
    (h : ∀ h' tk' u' DW ws n' c4', Fr g L h' (kstB u' []) → News g L h' ((DW, listOf ws.toArray n') :: (DR, listOf us.toArray n) :: (L + 1 + 1 + 1 + 1 + 1, c1) :: (L + 1 + 1 + 1 + 1, c2) :: (L + 1 + 1 + 1, c3) :: (L + 1 + 1, c4') :: (L + 1, c5) :: [(93, tabObj #[])]) →
      (∀ x ∈ DR :: cellsA L, x ≠ DW) → c4'.data = .cell (some (.ref DW)) → StrsAre ws (dr.map fun x => ⟨(wordN x).toArray⟩) → 
      wpAny (model PySem.Challenge.rw_pg0112_01.row.prog w) (callerA.deeper (envOfC "law" lawS L fa cd)) (execs (lawB.drop 2) (envOfC "law" lawS L fa cd)) Q E { s with heap := h', toks := tk' }) :
    wpAny (model PySem.Challenge.rw_pg0112_01.row.prog w) (callerA.deeper (envOfC "law" lawS L fa cd)) (execs (lawB.drop 1) (envOfC "law" lawS L fa cd)) Q E s := by
  have eS : lawS = lawS := rfl
  conv at eS => rhs; whnf
  have eB : lawB = lawB := rfl
  conv at eB => rhs; whnf
  rw [eB] at h ⊢
  rw [eS] at h ⊢
  dsimp only [List.drop] at h ⊢
  clear eB eS
  revert X₀; k_fill; intro X₀
  walk
  refine LC_eval (h₀ := g) (L := L) (m := kstB u []) (by rfl) (by decide) rfl (by decide) ?_
  walk
  have hul := hus.length
  refine lc_map_list (vs := us) (fun i ys rest => rest = (DR, listOf us.toArray n) :: (L + 1 + 1 + 1 + 1 + 1, c1) :: (L + 1 + 1 + 1 + 1, c2) :: (L + 1 + 1 + 1, c3) :: (L + 1 + 1, c4) :: (L + 1, c5) :: [(93, tabObj #[])] ∧ i ≤ us.length ∧ StrsAre ys ((dr.map fun x => (⟨(wordN x).toArray⟩ : Str)).take i))
    rfl rfl rfl F N (N.isList (.head _)) (by lia) ⟨rfl, Nat.zero_le _, .nil⟩ ?_ ?_ ?_ ?_
  · intro i ys rest hPP
    refine goal_G fun GG hGG => ?_
    obtain ⟨rfl, hi, hys⟩ := hPP
    refine hGG ?_
    clear hGG GG
    have := strs_len hys
    rw [List.length_take, List.length_map] at this
    lia
  · intro i ys rest h hPP _ N
    refine goal_G fun GG hGG => ?_
    obtain ⟨rfl, hi, hys⟩ := hPP
    refine hGG ?_
    clear hGG GG
    exact N.isList (.head _)
  · intro i ys rest I oI C oC mc D ne h tk hi hPP F8 N8 hC hx Jt hJt
    refine and_on3 hPP fun hre hi' hys => ?_
    clear hPP
    rw [hre] at N8
    first | refine Exists.elim (hus.int_at i (us.getD i .none) (by rw [List.getD_eq_getElem?_getD, List.getElem?_eq_getElem hi]; rfl)) fun t hv => ?_ | refine and_on2 (hus.int_at i (us.getD i .none) (by rw [List.getD_eq_getElem?_getD, List.getElem?_eq_getElem hi]; rfl)) fun t hv => ?_
    rw [hv] at hx
    have hxm : dr.getD i 0 ∈ dr := by rw [List.getD_eq_getElem?_getD, List.getElem?_eq_getElem (by lia)]; exact List.getElem_mem _
    have hw := take_map_succ (f := fun x => (⟨(wordN x).toArray⟩ : Str)) (dr := dr) (i := i) (by lia)
    first | refine Exists.elim (hdr _ hxm) fun x0 x1 => ?_ | refine and_on2 (hdr _ hxm) fun x0 x1 => ?_
    generalize dr.getD i 0 = x at hx x0 x1 hw
    walk
    rw [show x.fmod 48 = ((x % 48).toNat : Int) from by rw [Int.fmod_eq_emod_of_nonneg _ (by decide)]; lia, show (x.fdiv 48).fmod 2 = ((x / 48 % 2).toNat : Int) from by rw [Int.fmod_eq_emod_of_nonneg _ (by decide), Int.fdiv_eq_ediv_of_nonneg _ (by decide)]; lia]
    refine lift rfl (Nat.le_of_ble_eq_true rfl) rfl (Nat.le_of_ble_eq_true rfl) (word_spec B F8 X₀ T rfl N8 (by lia) (by lia) ?_)
    intro h9 tk9 ts F9 N9
    refine EltDone.same F9 (by rw [hre]; exact N9) (hJt _ _ ⟨hre, by lia, ?_⟩)
    rw [hw]
    exact strs_snoc hys
  intro hh D ys n rest hPP h9 tk9 F9 N9 o9
  refine goal_G fun GG hGG => ?_
  obtain ⟨rfl, _, hys⟩ := hPP
  refine hGG ?_
  clear hGG GG
  rw [List.take_of_length_le (by rw [List.length_map]; lia)] at hys
  clear N F
  walk
  have ne : ∀ {a b : Nat}, b < a → a ≠ b := fun h => Nat.ne_of_gt h
  have l93' : @LT.lt Nat _ 93 L := l93
  refine storeX_C F9 N9 rfl (UpdF.tail (Ne.symm (o9 (L + 1 + 1, c4) (by repeat' (first | with_reducible exact List.mem_cons_self | with_reducible refine List.mem_cons_of_mem _ ?_)))) (UpdF.tail (Ne.symm (oDR _ (by repeat' (first | with_reducible exact List.mem_cons_self | with_reducible refine List.mem_cons_of_mem _ ?_)))) (UpdF.tail (ne (by lia)) (UpdF.tail (ne (by lia)) (UpdF.tail (ne (by lia)) (UpdF.head (Off.cons (Nat.ne_of_lt (by lia)) (Off.cons (Nat.ne_of_lt (by lia)) (fun _ h => nomatch h))))))))) d4 ?_
  intro h15 c4' F15 N15 d4'
  refine h _ _ _ _ _ _ _ F15 N15 (fun x hx => ?_) d4' hys
  simp only [List.mem_cons, List.not_mem_nil, or_false] at hx
  rcases hx with rfl | rfl | rfl | rfl | rfl | rfl | rfl
  · exact o9 (_, _) (.head _)
  · exact o9 (_, _) (.tail _ (.head _))
  · exact o9 (_, _) (.tail _ (.tail _ (.head _)))
  · exact o9 (_, _) (.tail _ (.tail _ (.tail _ (.head _))))
  · exact o9 (_, _) (.tail _ (.tail _ (.tail _ (.tail _ (.head _)))))
  · exact o9 (_, _) (.tail _ (.tail _ (.tail _ (.tail _ (.tail _ (.head _))))))
  · exact o9 (_, _) (.tail _ (.tail _ (.tail _ (.tail _ (.tail _ (.tail _ (.head _)))))))
end
section
theorem sum_le {f : Int → Nat} {k : Nat} : ∀ {l : List Int}, (∀ x ∈ l, f x ≤ k) → (l.map f).sum ≤ l.length * k
  | [], _ => by simp
  | x :: l, h => by
    have h1 := h x (.head _)
    have h2 := sum_le (l := l) fun y hy => h y (.tail _ hy)
    rw [List.map_cons, List.sum_cons, List.length_cons, Nat.succ_mul]
    lia
theorem seg_len (x : Int) (hx : 0 ≤ x ∧ x < 288) : (⟨(segN x).toArray⟩ : Str).length ≤ 10 := by
  have h3 := wordN_len x
  show (segN x).toArray.size ≤ 10
  rw [List.size_toArray]
  unfold segN
  generalize wordN x = ds at h3
  refine goal_G fun GG hGG => ?_
  obtain ⟨a, b, c, rfl⟩ := len3 h3
  refine hGG ?_
  clear hGG GG
  have : (x / 96).toNat = 0 ∨ (x / 96).toNat = 1 ∨ (x / 96).toNat = 2 := by lia
  rcases this with e | e | e <;> rw [e] <;> simp [spelled]
theorem law_3 {w : World} {g : Heap} {L fa : Addr} {cd : Value} {s : Shared} {p : Program} {loose : List Str} {mean : ExcName → Option Value} {mg mb : Str → Option Value} {Q : Flow → Shared → Prop} {E : Value → Shared → Prop} {u : Str → Option Value} {DR DW : Addr} {us ws : List Value} {dr : List Int} {n nw : Nat} {c1 c2 c3 c4 c5 : Obj}
    (B : Below callerA g [] g) (F : Fr g L s.heap (kstB u [])) (X₀ : (Mine.hd.heap_1 w.params).In g) (T : Top p loose mean mg mb g)
    (N : News g L s.heap ((DW, listOf ws.toArray nw) :: (DR, listOf us.toArray n) :: (L + 1 + 1 + 1 + 1 + 1, c1) :: (L + 1 + 1 + 1 + 1, c2) :: (L + 1 + 1 + 1, c3) :: (L + 1 + 1, c4) :: (L + 1, c5) :: [(93, tabObj #[])]))
    (d4 : c4.data = .cell (some (.ref DW))) (d5 : c5.data = .cell (some (.ref DR))) (hus : IntsAre us dr) (hws : StrsAre ws (dr.map fun x => ⟨(wordN x).toArray⟩)) (h7 : dr.length = 7) (hdr : ∀ x ∈ dr, 0 ≤ x ∧ x < 288)
    (h : ∀ h' tk' u' tt, Fr g L h' (kstB u' [("text", .str ⟨(textN dr).toArray⟩ tt)]) → News g L h' ((DW, listOf ws.toArray nw) :: (DR, listOf us.toArray n) :: (L + 1 + 1 + 1 + 1 + 1, c1) :: (L + 1 + 1 + 1 + 1, c2) :: (L + 1 + 1 + 1, c3) :: (L + 1 + 1, c4) :: (L + 1, c5) :: [(93, tabObj #[])]) →
      wpAny (model PySem.Challenge.rw_pg0112_01.row.prog w) (callerA.deeper (envOfC "law" lawS L fa cd)) (execs (lawB.drop 3) (envOfC "law" lawS L fa cd)) Q E { s with heap := h', toks := tk' }) :
    wpAny (model PySem.Challenge.rw_pg0112_01.row.prog w) (callerA.deeper (envOfC "law" lawS L fa cd)) (execs (lawB.drop 2) (envOfC "law" lawS L fa cd)) Q E s := by
  have eS : lawS = lawS := rfl
  conv at eS => rhs; whnf
  have eB : lawB = lawB := rfl
  conv at eB => rhs; whnf
  rw [eB] at h ⊢
  rw [eS] at h ⊢
  dsimp only [List.drop] at h ⊢
  clear eB eS
  revert X₀; k_fill; intro X₀
  walk
  refine LC_eval (h₀ := g) (L := L) (m := kstB u []) (by rfl) (by decide) rfl (by decide) ?_
  walk
  rename IsRange _ _ _ _ _ _ _ _ => hR
  rename Fr g L _ _ => F5
  rename News g L _ _ => N5
  have hul := hus.length
  have hwl := strs_len hws
  rw [List.length_map] at hwl
  refine lc_map_range (k := 7) (fun i ys rest => rest = (DW, listOf ws.toArray nw) :: (DR, listOf us.toArray n) :: (L + 1 + 1 + 1 + 1 + 1, c1) :: (L + 1 + 1 + 1 + 1, c2) :: (L + 1 + 1 + 1, c3) :: (L + 1 + 1, c4) :: (L + 1, c5) :: [(93, tabObj #[])] ∧ i ≤ 7 ∧ StrsAre ys ((dr.map fun x => (⟨(segN x).toArray⟩ : Str)).take i))
    rfl rfl rfl F5 N5 hR (by decide) (by decide) (by lia) ⟨rfl, Nat.zero_le _, .nil⟩ ?_ ?_ ?_
  · intro i ys rest hPP
    refine goal_G fun GG hGG => ?_
    obtain ⟨rfl, hi, hys⟩ := hPP
    refine hGG ?_
    clear hGG GG
    have := strs_len hys
    rw [List.length_take, List.length_map] at this
    lia
  · intro i ys rest I oI C oC mc D ne h tk ti hi hPP F8 N8 hC hx Jt hJt
    refine and_on3 hPP fun hre hi' hys => ?_
    clear hPP
    rw [hre] at N8
    have hw := take_map_succ (f := fun x => (⟨(segN x).toArray⟩ : Str)) (dr := dr) (i := i) (by lia)
    have hxm : dr.getD i 0 ∈ dr := getD_mem0 (by lia)
    first | refine Exists.elim (hdr _ hxm) fun x0 x1 => ?_ | refine and_on2 (hdr _ hxm) fun x0 x1 => ?_
    walk
    rw [show ((i : Int).toNat) = i from rfl, getD_map0 (by lia)]
    generalize dr.getD i 0 = x at hxm x0 x1 hw
    rw [show x.fdiv 96 = ((x / 96).toNat : Int) from by rw [Int.fdiv_eq_ediv_of_nonneg _ (by decide)]; lia]
    refine lift rfl (Nat.le_of_ble_eq_true rfl) rfl (Nat.le_of_ble_eq_true rfl) (spelled_spec (ds := wordN x) B F8 X₀ T rfl N8 (wordN_len x) (wordN_dig x) ?_)
    intro h9 tk9 ts F9 N9
    refine EltDone.same F9 (by rw [hre]; exact N9) (hJt _ _ ⟨hre, by lia, ?_⟩)
    rw [hw]
    exact strs_snoc hys
  intro hh D ys n rest hPP h9 tk9 F9 N9 o9
  refine goal_G fun GG hGG => ?_
  obtain ⟨rfl, _, hys⟩ := hPP
  refine hGG ?_
  clear hGG GG
  rw [List.take_of_length_le (by rw [List.length_map]; lia)] at hys
  clear F5 N5
  walk
  refine join_list (N9.isList (.head _)) hys ?_ ?_
  · rw [List.map_map, List.length_map]
    exact Nat.le_trans (Nat.add_le_add_right (sum_le (k := 10) fun x hx => seg_len x (hdr x hx)) _) (by rw [h7]; decide)
  · intro tj kj
    have ew : (dr.map fun x => (⟨(segN x).toArray⟩ : Str)) = (dr.map segN).map fun l => (⟨l.toArray⟩ : Str) := by rw [List.map_map]; rfl
    rw [ew, join_flat]
    repeat' ((fail_if_success with_reducible first | refine stX ?_ | refine stW ?_ | refine stF ?_ | refine stL ?_ | refine stC ?_ | refine stT ?_); walk1; try dsimp only)
    rename Fr g L _ _ => F12
    rename News g L _ _ => N12
    first | refine Exists.elim (Fr.some F12 [("text", .str ⟨(textN dr).toArray⟩ _)] ⟨rfl, trivial⟩) fun u' F13 => ?_ | refine and_on2 (Fr.some F12 [("text", .str ⟨(textN dr).toArray⟩ _)] ⟨rfl, trivial⟩) fun u' F13 => ?_
    exact h _ _ _ _ F13 (News.sub N12 fun p hp => .tail _ hp)
end
section
theorem Lex.Ok.geCt {w : World} {l : Lex} {tx : Str} (ok : l.Ok w tx) {ln : Int} {tl tn : Tok} {n nn np : Nat} {pbs : List Value} : ∀ p ∈ l.led w ln tl n tn nn pbs np, l.ct ≤ p.1 := by
  have b1 := ok.l1
  have b2 := Nat.lt_trans b1 ok.l2
  have b3 := Nat.lt_trans b2 ok.l3
  have b4 := Nat.lt_trans b3 ok.l4
  have b5 := Nat.lt_trans b4 ok.l5
  have b6 := Nat.lt_trans b5 ok.l6
  have b7 := Nat.lt_trans b6 ok.l7
  have b8 := Nat.lt_trans b7 ok.l8
  have b9 := Nat.lt_trans b8 ok.l9
  have cons : ∀ {a : Addr} {o : Obj} {r : List (Addr × Obj)}, l.ct ≤ a → (∀ p ∈ r, l.ct ≤ p.1) → ∀ p ∈ (a, o) :: r, l.ct ≤ p.1 := fun h t p hp => (List.mem_cons.mp hp).elim (fun e => by rw [e]; exact h) (t p)
  exact cons (Nat.le_of_lt b9) (cons (Nat.le_of_lt b8) (cons (Nat.le_of_lt b7) (cons (Nat.le_of_lt b6) (cons (Nat.le_of_lt b5) (cons (Nat.le_of_lt b4) (cons (Nat.le_of_lt b3) (cons (Nat.le_of_lt b2) (cons (Nat.le_of_lt b1) (cons (Nat.le_refl _) fun _ h => nomatch h)))))))))
/-- what stands below the lexer -/
noncomputable abbrev lawR (L DW DR : Addr) (us ws : List Value) (n nw : Nat) (c1 c2 c3 c4 c5 : Obj) (ps : Array Value) : List (Addr × Obj) :=
  (93, tabObj ps) :: (DW, listOf ws.toArray nw) :: (DR, listOf us.toArray n) :: (L + 1 + 1 + 1 + 1 + 1, c1) :: (L + 1 + 1 + 1 + 1, c2) :: (L + 1 + 1 + 1, c3) :: (L + 1 + 1, c4) :: (L + 1, c5) :: []
theorem law_4 {w : World} {g : Heap} {L fa : Addr} {cd : Value} {s : Shared} {p : Program} {loose : List Str} {mean : ExcName → Option Value} {mg mb : Str → Option Value} {Q : Flow → Shared → Prop} {E : Value → Shared → Prop} {u : Str → Option Value} {DR DW : Addr} {us ws : List Value} {n nw : Nat} {c1 c2 c3 c4 c5 : Obj} {tx : Str} {tt : Tok} {k3 : Option Value}
    (B : Below callerA g [] g) (F : Fr g L s.heap (kstB u [("text", .str tx tt)])) (X₀ : (Mine.hd.heap_1 w.params).In g) (T : Top p loose mean mg mb g) (C : CodeHd g 97 93) (l93 : 93 < L)
    (N : News g L s.heap ((DW, listOf ws.toArray nw) :: (DR, listOf us.toArray n) :: (L + 1 + 1 + 1 + 1 + 1, c1) :: (L + 1 + 1 + 1 + 1, c2) :: (L + 1 + 1 + 1, c3) :: (L + 1 + 1, c4) :: (L + 1, c5) :: [(93, tabObj #[])]))
    (oDR : ∀ x ∈ cellsA L, x ≠ DR) (oDW : ∀ x ∈ DR :: cellsA L, x ≠ DW) (d3 : c3.data = .cell k3)
    (h : ∀ h' tk' u' c3' (l : Lex) ps tl tn, Fr g L h' (kstB u' [("text", .str tx tt)]) → News g L h' (l.led w 1 tl 0 tn 0 [] 0 ++ lawR L DW DR us ws n nw c1 c2 c3' c4 c5 ps) → l.Ok w tx → (∀ p ∈ lawR L DW DR us ws n nw c1 c2 c3' c4 c5 ps, p.1 < l.ct) → c3'.data = .cell (some (.ref l.lx)) →
      wpAny (model PySem.Challenge.rw_pg0112_01.row.prog w) (callerA.deeper (envOfC "law" lawS L fa cd)) (execs (lawB.drop 4) (envOfC "law" lawS L fa cd)) Q E { s with heap := h', toks := tk' }) :
    wpAny (model PySem.Challenge.rw_pg0112_01.row.prog w) (callerA.deeper (envOfC "law" lawS L fa cd)) (execs (lawB.drop 3) (envOfC "law" lawS L fa cd)) Q E s := by
  have eS : lawS = lawS := rfl
  conv at eS => rhs; whnf
  have eB : lawB = lawB := rfl
  conv at eB => rhs; whnf
  rw [eB] at h ⊢
  rw [eS] at h ⊢
  dsimp only [List.drop] at h ⊢
  clear eB eS
  revert X₀; k_fill; intro X₀
  walk
  have l93' : @LT.lt Nat _ 93 L := l93
  have N2 : News g L s.heap (lawR L DW DR us ws n nw c1 c2 c3 c4 c5 #[]) := News.sub N fun p hp => by
    revert p
    repeat' (first | with_reducible exact sub_nil | with_reducible exact sub_self | with_reducible exact List.mem_cons_self | with_reducible refine sub_cons ?_ ?_ | with_reducible refine sub_app ?_ ?_ | with_reducible refine List.mem_cons_of_mem _ ?_ | (with_reducible refine List.mem_append_left _ ?_; (repeat (first | with_reducible exact List.mem_cons_self | with_reducible refine List.mem_cons_of_mem _ ?_)); done) | with_reducible refine List.mem_append_right _ ?_ | with_reducible refine sub_tl ?_ | with_reducible exact sub_apl sub_self | with_reducible refine sub_apr ?_)
  have o93 : Off 93 ((DW, listOf ws.toArray nw) :: (DR, listOf us.toArray n) :: (L + 1 + 1 + 1 + 1 + 1, c1) :: (L + 1 + 1 + 1 + 1, c2) :: (L + 1 + 1 + 1, c3) :: (L + 1 + 1, c4) :: (L + 1, c5) :: []) :=
    Off.cons (Ne.symm (oDW 93 (by repeat' (first | with_reducible exact List.mem_cons_self | with_reducible refine List.mem_cons_of_mem _ ?_)))) (Off.cons (Ne.symm (oDR 93 (by repeat' (first | with_reducible exact List.mem_cons_self | with_reducible refine List.mem_cons_of_mem _ ?_)))) (Off.cons (Nat.ne_of_gt (by lia)) (Off.cons (Nat.ne_of_gt (by lia)) (Off.cons (Nat.ne_of_gt (by lia)) (Off.cons (Nat.ne_of_gt (by lia)) (Off.cons (Nat.ne_of_gt (by lia)) (fun _ h => nomatch h)))))))
  refine lift rfl (Nat.le_of_ble_eq_true rfl) rfl (Nat.le_of_ble_eq_true rfl) (lexer_spec B F X₀ T rfl C N2 o93 ?_)
  intro h4 tk4 l ps tl tn F4 N4 ok hlt
  repeat' ((fail_if_success with_reducible first | refine stX ?_ | refine stW ?_ | refine stF ?_ | refine stL ?_ | refine stC ?_ | refine stT ?_); walk1; try dsimp only)
  have hge := ok.geCt (w := w) (ln := 1) (tl := tl) (tn := tn) (n := 0) (nn := 0) (np := 0) (pbs := [])
  have e3 : L + 1 + 1 + 1 < l.ct := hlt (L + 1 + 1 + 1, c3) (by repeat' (first | with_reducible exact List.mem_cons_self | with_reducible refine List.mem_cons_of_mem _ ?_))
  generalize hLL : l.led w 1 tl 0 tn 0 [] 0 = LL at N4 hge
  have N5 : News g L h4 ((L + 1 + 1 + 1, c3) :: (LL ++ [(93, tabObj ps), (DW, listOf ws.toArray nw), (DR, listOf us.toArray n), (L + 1 + 1 + 1 + 1 + 1, c1), (L + 1 + 1 + 1 + 1, c2), (L + 1 + 1, c4), (L + 1, c5)])) := News.sub N4 fun p hp => by
    revert p
    repeat' (first | with_reducible exact sub_nil | with_reducible exact sub_self | with_reducible exact List.mem_cons_self | with_reducible refine sub_cons ?_ ?_ | with_reducible refine sub_app ?_ ?_ | with_reducible refine List.mem_cons_of_mem _ ?_ | (with_reducible refine List.mem_append_left _ ?_; (repeat (first | with_reducible exact List.mem_cons_self | with_reducible refine List.mem_cons_of_mem _ ?_)); done) | with_reducible refine List.mem_append_right _ ?_ | with_reducible refine sub_tl ?_ | with_reducible exact sub_apl sub_self | with_reducible refine sub_apr ?_)
  refine storeX_C F4 N5 rfl (UpdF.head fun p hp => ?_) d3 ?_
  · rcases List.mem_append.mp hp with hp | hp
    · exact Nat.ne_of_gt (Nat.lt_of_lt_of_le e3 (hge p hp))
    · simp only [List.mem_cons, List.not_mem_nil, or_false] at hp
      rcases hp with rfl | rfl | rfl | rfl | rfl | rfl | rfl
      · exact Nat.ne_of_lt (by lia)
      · exact Ne.symm (oDW (L + 1 + 1 + 1) (by repeat' (first | with_reducible exact List.mem_cons_self | with_reducible refine List.mem_cons_of_mem _ ?_)))
      · exact Ne.symm (oDR (L + 1 + 1 + 1) (by repeat' (first | with_reducible exact List.mem_cons_self | with_reducible refine List.mem_cons_of_mem _ ?_)))
      · exact Nat.ne_of_gt (by lia)
      · exact Nat.ne_of_gt (by lia)
      · exact Nat.ne_of_lt (by lia)
      · exact Nat.ne_of_lt (by lia)
  · intro h6 c3' F6 N6 d3'
    refine h h6 _ _ c3' l ps tl tn F6 (News.sub N6 fun p hp => ?_) ok (fun p hp => ?_) d3'
    · rw [hLL] at hp
      revert p
      repeat' (first | with_reducible exact sub_nil | with_reducible exact sub_self | with_reducible exact List.mem_cons_self | with_reducible refine sub_cons ?_ ?_ | with_reducible refine sub_app ?_ ?_ | with_reducible refine List.mem_cons_of_mem _ ?_ | (with_reducible refine List.mem_append_left _ ?_; (repeat (first | with_reducible exact List.mem_cons_self | with_reducible refine List.mem_cons_of_mem _ ?_)); done) | with_reducible refine List.mem_append_right _ ?_ | with_reducible refine sub_tl ?_ | with_reducible exact sub_apl sub_self | with_reducible refine sub_apr ?_)
    · simp only [List.mem_cons, List.not_mem_nil, or_false] at hp
      rcases hp with rfl | rfl | rfl | rfl | rfl | rfl | rfl | rfl <;> first | exact e3 | exact hlt (_, _) (.head _) | exact hlt (_, _) (.tail _ (.head _)) | exact hlt (_, _) (.tail _ (.tail _ (.head _))) | exact hlt (_, _) (.tail _ (.tail _ (.tail _ (.head _)))) | exact hlt (_, _) (.tail _ (.tail _ (.tail _ (.tail _ (.head _))))) | exact hlt (_, _) (.tail _ (.tail _ (.tail _ (.tail _ (.tail _ (.tail _ (.head _))))))) | exact hlt (_, _) (.tail _ (.tail _ (.tail _ (.tail _ (.tail _ (.tail _ (.tail _ (.head _))))))))
end
section
/-- the lines that i words end -/
noncomputable def linesN (dr : List Int) (i : Nat) : Int := ((((dr.take i).filter fun (x : Int) => decide (x / 96 = 0)).length : Nat) : Int)
noncomputable def toksN (dr : List Int) : List Str := (dr.map fun x => (⟨(wordN x).toArray⟩ : Str)) ++ [("" : Str)]
theorem seg_body (x : Int) (hx : 0 ≤ x ∧ x < 288) : segN x = body (wordN x) (x / 96).toNat ++ (if decide (x / 96 = 1) then [32] else []) := by
  have : x / 96 = 0 ∨ x / 96 = 1 ∨ x / 96 = 2 := by lia
  unfold segN
  rcases this with e | e | e <;> rw [e] <;> simp [spelled, body]
theorem drop_seg {dr : List Int} {i : Nat} (hi : i < dr.length) : ((dr.drop i).map segN).flatten = segN (dr.getD i 0) ++ ((dr.drop (i + 1)).map segN).flatten := by
  rw [List.drop_eq_getElem_cons hi, List.map_cons, List.flatten_cons, List.getD_eq_getElem?_getD, List.getElem?_eq_getElem hi]; rfl
theorem lines_succ {dr : List Int} {i : Nat} (hi : i < dr.length) (h0 : 0 ≤ dr.getD i 0) : linesN dr (i + 1) = linesN dr i + (if (dr.getD i 0 / 96).toNat = 0 then 1 else 0) := by
  have e : dr[i]? = some (dr.getD i 0) := by rw [List.getD_eq_getElem?_getD, List.getElem?_eq_getElem hi]; rfl
  unfold linesN
  rw [List.take_add_one, e]
  generalize dr.getD i 0 = x at h0
  simp only [Option.toList_some, List.filter_append, List.length_append]
  by_cases h : x / 96 = 0
  · simp [h]
  · have h2 : ¬ (x / 96).toNat = 0 := by lia
    simp [h, h2]
theorem lines_bd (dr : List Int) (i : Nat) (h : dr.length = 7) : 0 ≤ 1 + linesN dr i ∧ 1 + linesN dr i < 1000 := by
  unfold linesN
  have h1 := List.length_filter_le (fun (x : Int) => decide (x / 96 = 0)) (dr.take i)
  have h2 : (dr.take i).length ≤ 7 := by rw [List.length_take]; lia
  lia
theorem text_bd {dr : List Int} (h : dr.length = 7) (hdr : ∀ x ∈ dr, 0 ≤ x ∧ x < 288) : (textN dr).length < 1000 := by
  unfold textN
  rw [List.length_flatten, List.map_map]
  have h1 : (dr.map (List.length ∘ segN)).sum ≤ dr.length * 10 := sum_le fun x hx => by
    have := seg_len x (hdr x hx)
    have e : (⟨(segN x).toArray⟩ : Str).length = (segN x).length := List.size_toArray
    rw [e] at this
    exact this
  lia
theorem toks_succ {dr : List Int} {i : Nat} (hi : i < dr.length) : (toksN dr).take (i + 1) = (toksN dr).take i ++ [⟨(wordN (dr.getD i 0)).toArray⟩] := by
  unfold toksN
  rw [List.take_append_of_le_length (by rw [List.length_map]; lia), List.take_append_of_le_length (by rw [List.length_map]; lia)]
  exact take_map_succ (f := fun x => (⟨(wordN x).toArray⟩ : Str)) hi
theorem toks_all {dr : List Int} (h : dr.length = 7) : (toksN dr).take 8 = (toksN dr).take 7 ++ [("" : Str)] := by
  unfold toksN
  have hm : (dr.map fun x => (⟨(wordN x).toArray⟩ : Str)).length = 7 := by rw [List.length_map]; exact h
  generalize (dr.map fun x => (⟨(wordN x).toArray⟩ : Str)) = l at hm
  have a : (l ++ [("" : Str)]).take 8 = l ++ [("" : Str)] := List.take_of_length_le (by rw [List.length_append, hm]; exact Nat.le_refl _)
  have b : (l ++ [("" : Str)]).take 7 = l := List.take_left' hm
  rw [a, b]
theorem law_5 {w : World} {g : Heap} {L fa : Addr} {cd : Value} {s : Shared} {p : Program} {loose : List Str} {mean : ExcName → Option Value} {mg mb : Str → Option Value} {Q : Flow → Shared → Prop} {E : Value → Shared → Prop} {u : Str → Option Value} {dr : List Int} {c3 : Obj} {l : Lex} {tl tn tt : Tok} {X₁ : List (Addr × Obj)}
    (B : Below callerA g [] g) (F : Fr g L s.heap (kstB u [("text", .str ⟨(textN dr).toArray⟩ tt)])) (X₀ : (Mine.hd.heap_1 w.params).In g) (T : Top p loose mean mg mb g)
    (N : News g L s.heap (l.led w 1 tl 0 tn 0 [] 0 ++ X₁)) (ok : l.Ok w ⟨(textN dr).toArray⟩) (hlt : ∀ p ∈ X₁, p.1 < l.ct)
    (m3 : (L + 1 + 1 + 1, c3) ∈ X₁) (d3 : c3.data = .cell (some (.ref l.lx))) (h7 : dr.length = 7) (hdr : ∀ x ∈ dr, 0 ≤ x ∧ x < 288)
    (h : ∀ h' tk' u' DT ts nt tl' tn' n', Fr g L h' (kstB u' [("text", .str ⟨(textN dr).toArray⟩ tt), ("told", .ref DT)]) → News g L h' ((DT, listOf ts.toArray nt) :: (l.led w (1 + linesN dr 7) tl' n' tn' 0 [] 0 ++ X₁)) →
      (∀ p ∈ l.led w (1 + linesN dr 7) tl' n' tn' 0 [] 0 ++ X₁, p.1 ≠ DT) → n' ≤ (textN dr).length → (textN dr).drop n' = [] → StrsAre ts (toksN dr) → 
      wpAny (model PySem.Challenge.rw_pg0112_01.row.prog w) (callerA.deeper (envOfC "law" lawS L fa cd)) (execs (lawB.drop 5) (envOfC "law" lawS L fa cd)) Q E { s with heap := h', toks := tk' }) :
    wpAny (model PySem.Challenge.rw_pg0112_01.row.prog w) (callerA.deeper (envOfC "law" lawS L fa cd)) (execs (lawB.drop 4) (envOfC "law" lawS L fa cd)) Q E s := by
  have eS : lawS = lawS := rfl
  conv at eS => rhs; whnf
  have eB : lawB = lawB := rfl
  conv at eB => rhs; whnf
  rw [eB] at h ⊢
  rw [eS] at h ⊢
  dsimp only [List.drop] at h ⊢
  clear eB eS
  revert X₀; k_fill; intro X₀
  walk1
  refine LC_assign (h₀ := g) (L := L) (m := kstB u [("text", .str ⟨(textN dr).toArray⟩ tt)]) rfl (by rfl) (by rfl) (by decide) rfl (by decide) rfl rfl ?_
  walk
  rename IsRange _ _ _ _ _ _ _ _ => hR
  rename Fr g L _ _ => F5
  rename News g L _ _ => N5
  refine lc_map_rangeO (k := 8) (fun i ys rest => Ex4 fun (tl tn : Tok) (n' : Nat) (sp : Bool) => rest = l.led w (1 + linesN dr i) tl n' tn 0 [] 0 ++ X₁ ∧ i ≤ 8 ∧ n' ≤ (textN dr).length ∧ (i = 8 → sp = false) ∧ (textN dr).drop n' = (if sp then [32] else []) ++ ((dr.drop i).map segN).flatten ∧ StrsAre ys ((toksN dr).take i))
    rfl rfl rfl F5 N5 hR (by decide) (by decide) (by lia) (Ex4.mk tl tn 0 false ⟨rfl, Nat.zero_le _, Nat.zero_le _, fun _ => rfl, rfl, .nil⟩) ?_ ?_ ?_
  · intro i ys rest hPP
    refine hPP _ fun _ _ _ _ hA => ?_
    have hi := hA.2.1
    have := strs_len hA.2.2.2.2.2
    rw [List.length_take] at this
    unfold toksN at this
    rw [List.length_append, List.length_map] at this
    simp only [List.length_cons, List.length_nil] at this
    lia
  · intro i ys rest I oI C oC mc D ne h tk ti hi hPP F8 N8 hC hx off nCI nDI nCD Jt hJt
    refine hPP _ fun tl1 tn1 n1 sp hA => ?_
    refine and_on6 hA fun hre hi8 hn1 hsp hdrop hys => ?_
    clear hA hPP
    rw [hre] at N8 off
    have N9 := News.swapApp (p := [(C, oC), (I, oI), (D, listOf ys.toArray ne)]) N8
    replace N8 : News g L _ ((C, oC) :: (I, oI) :: (D, listOf ys.toArray ne) :: (l.led w (1 + linesN dr i) tl1 n1 tn1 0 [] 0 ++ X₁)) := N8
    generalize hXX : l.led w (1 + linesN dr i) tl1 n1 tn1 0 [] 0 ++ X₁ = XX at N8
    replace N8 : News g L _ ((L + 1 + 1 + 1, c3) :: (l.lx, instObj 87 l.dl) :: (l.dl, dictOf (l.es w (1 + linesN dr i) tl1) 4) :: (C, oC) :: (I, oI) :: (D, listOf ys.toArray ne) :: XX) := News.one (News.two N8 (.tail _ (.tail _ (.tail _ (hXX ▸ List.mem_append_left _ (.tail _ (.head _)))))) (.tail _ (.tail _ (.tail _ (hXX ▸ List.mem_append_left _ (.tail _ (.tail _ (.head _)))))))) (.tail _ (.tail _ (.tail _ (.tail _ (.tail _ (hXX ▸ List.mem_append_right _ m3))))))
    dsimp only [Lex.es] at N8
    try dsimp only
    walk
    have oAll : ∀ p ∈ [(C, oC), (I, oI), (D, listOf ys.toArray ne)] ++ X₁, p.1 ≠ l.dl ∧ p.1 ≠ l.at0 := fun p hp => by
      rcases List.mem_append.mp hp with hp | hp
      · have q1 := off (l.dl, dictOf (l.es w (1 + linesN dr i) tl1) 4) (.tail _ (.tail _ (.head _)))
        have q2 := off (l.at0, listOf #[.int n1 tn1] 0) (.tail _ (.tail _ (.tail _ (.tail _ (.tail _ (.tail _ (.tail _ (.head _))))))))
        simp only [List.mem_cons, List.not_mem_nil, or_false] at hp
        rcases hp with rfl | rfl | rfl
        · exact ⟨Ne.symm q1.1, Ne.symm q2.1⟩
        · exact ⟨Ne.symm q1.2.2, Ne.symm q2.2.2⟩
        · exact ⟨Ne.symm q1.2.1, Ne.symm q2.2.1⟩
      · have q := hlt p hp
        have g1 := ok.geCt (w := w) (ln := 1 + linesN dr i) (tl := tl1) (tn := tn1) (n := n1) (nn := 0) (np := 0) (pbs := []) (l.dl, dictOf (l.es w (1 + linesN dr i) tl1) 4) (.tail _ (.tail _ (.head _)))
        have g2 := ok.geCt (w := w) (ln := 1 + linesN dr i) (tl := tl1) (tn := tn1) (n := n1) (nn := 0) (np := 0) (pbs := []) (l.at0, listOf #[.int n1 tn1] 0) (.tail _ (.tail _ (.tail _ (.tail _ (.tail _ (.tail _ (.tail _ (.head _))))))))
        exact ⟨Nat.ne_of_lt (Nat.lt_of_lt_of_le q g1), Nat.ne_of_lt (Nat.lt_of_lt_of_le q g2)⟩
    have sameA : ∀ {ln : Int} {tl tn : Tok} {n2 : Nat}, ∀ p ∈ l.led w ln tl n2 tn 0 [] 0 ++ X₁, ∃ q ∈ l.led w (1 + linesN dr i) tl1 n1 tn1 0 [] 0 ++ X₁, q.1 = p.1 := fun {ln tl tn n2} p hp => by
      have em : (l.led w (1 + linesN dr i) tl1 n1 tn1 0 [] 0 ++ X₁).map (·.1) = (l.led w ln tl n2 tn 0 [] 0 ++ X₁).map (·.1) := rfl
      have hm : p.1 ∈ (l.led w (1 + linesN dr i) tl1 n1 tn1 0 [] 0 ++ X₁).map (·.1) := by rw [em]; exact List.mem_map_of_mem hp
      obtain ⟨q, hq, e⟩ := List.mem_map.mp hm
      exact ⟨q, hq, e⟩
    have hlen : (⟨(textN dr).toArray⟩ : Str).length = (textN dr).length := List.size_toArray
    have ht70 := text_bd h7 hdr
    have hln := lines_bd dr i h7
    rcases Nat.lt_or_ge i 7 with h7i | h7i
    · have hx' := hdr _ (getD_mem0 (dr := dr) (i := i) (by lia))
      rw [drop_seg (by lia), seg_body _ hx', List.append_assoc] at hdrop
      have hl := lines_succ (dr := dr) (i := i) (by lia) hx'.1
      have ht := toks_succ (dr := dr) (i := i) (by lia)
      generalize dr.getD i 0 = x at hx' hdrop hl ht
      refine lift rfl (Nat.le_of_ble_eq_true rfl) rfl (Nat.le_of_ble_eq_true rfl) (gettok_read (sp := sp) (way := (x / 96).toNat) (word := wordN x) B F8 X₀ T rfl N9 ok oAll (by rw [hlen]; exact hn1) (by rw [hlen]; exact ht70) hln (wordN_dig x) (wordN_len x) hdrop ?_)
      intro h10 tk10 tl2 tn2 ts n2 hd2 hn2 F10 N10
      refine EltDone.to F10 (News.swapApp (q := [(C, oC), (I, oI), (D, listOf ys.toArray ne)]) N10) (by rw [hre]; exact sameA) (hJt _ _ (Ex4.mk tl2 tn2 n2 (decide (x / 96 = 1)) ⟨?_, by lia, by rw [← hlen]; exact hn2, fun e => by lia, hd2, ?_⟩))
      · rw [hl, Int.add_assoc]
      · rw [ht]; exact strs_snoc hys
    · have i7 : i = 7 := by lia
      subst i7
      have e0 : dr.drop 7 = [] := List.drop_eq_nil_of_le (by lia)
      rw [e0] at hdrop
      have e78 : linesN dr 8 = linesN dr 7 := by unfold linesN; rw [List.take_of_length_le (by lia), List.take_of_length_le (by lia)]
      refine lift rfl (Nat.le_of_ble_eq_true rfl) rfl (Nat.le_of_ble_eq_true rfl) (gettok_end (sp := sp) B F8 X₀ T rfl N9 ok oAll (by rw [hlen]; exact hn1) (by rw [hlen]; exact ht70) hln hdrop ?_)
      intro h10 tk10 tl2 tn2 ts n2 hd2 hn2 F10 N10
      refine EltDone.to F10 (News.swapApp (q := [(C, oC), (I, oI), (D, listOf ys.toArray ne)]) N10) (by rw [hre]; exact sameA) (hJt _ _ (Ex4.mk tl2 tn2 n2 false ⟨by rw [e78], by lia, by rw [← hlen]; exact hn2, fun _ => rfl, ?_, ?_⟩))
      · have e1 : dr.drop (7 + 1) = [] := List.drop_eq_nil_of_le (by lia)
        rw [e1]; exact hd2
      · rw [toks_all h7]; exact strs_snoc hys
  · intro hh D ys n rest hPP h9 tk9 F9 N9 o9
    refine hPP _ fun tl1 tn1 n1 sp hA => ?_
    refine and_on6 hA fun hre _ hn1 hsp hdrop hys => ?_
    clear hA hPP
    rw [hre] at N9 o9
    have hs := hsp rfl
    subst hs
    have e0 : dr.drop 8 = [] := List.drop_eq_nil_of_le (by lia)
    rw [e0] at hdrop
    rw [List.take_of_length_le (by unfold toksN; rw [List.length_append, List.length_map, h7]; exact Nat.le_refl _)] at hys
    have e78 : linesN dr 8 = linesN dr 7 := by unfold linesN; rw [List.take_of_length_le (by lia), List.take_of_length_le (by lia)]
    rw [e78] at N9 o9
    obtain ⟨u', F10⟩ := Fr.some F9 [("text", .str ⟨(textN dr).toArray⟩ tt), ("told", .ref D)] ⟨rfl, rfl, trivial⟩
    exact h _ _ _ _ _ _ _ _ _ F10 N9 o9 hn1 hdrop hys
end
section
theorem cnt_seg : ∀ x : Nat, x < 288 → cnt 10 (segN (x : Int)) = if (x : Int) / 96 = 0 then 1 else 0 := by decide +kernel
theorem cnt_text : ∀ dr : List Int, (∀ x ∈ dr, 0 ≤ x ∧ x < 288) → cnt 10 ((dr.map segN).flatten) = (((dr.filter fun (x : Int) => decide (x / 96 = 0)).length : Nat) : Int)
  | [], _ => rfl
  | x :: r, h => by
    first | refine Exists.elim (h x (.head _)) fun h0 h1 => ?_ | refine and_on2 (h x (.head _)) fun h0 h1 => ?_
    have ih := cnt_text r fun y hy => h y (.tail _ hy)
    have hx : cnt 10 (segN x) = if x / 96 = 0 then 1 else 0 := by
      have := cnt_seg x.toNat (by lia)
      rwa [show ((x.toNat : Nat) : Int) = x from by lia] at this
    rw [List.map_cons, List.flatten_cons, cnt_append, ih, hx]
    by_cases hc : x / 96 = 0
    · rw [if_pos hc, List.filter_cons_of_pos (by simpa using hc), List.length_cons]; lia
    · rw [if_neg hc, List.filter_cons_of_neg (by simpa using hc)]; lia
theorem count_text {dr : List Int} (h7 : dr.length = 7) (hdr : ∀ x ∈ dr, 0 ≤ x ∧ x < 288) : Txt.count ⟨(textN dr).toArray⟩ "\n" = linesN dr 7 := by
  show Txt.count ⟨(textN dr).toArray⟩ ⟨#[10]⟩ = linesN dr 7
  rw [count_cnt]
  show cnt 10 (textN dr) = linesN dr 7
  unfold textN linesN
  rw [cnt_text dr hdr, List.take_of_length_le (by lia)]
theorem law_6 {w : World} {g : Heap} {L fa : Addr} {cd : Value} {s : Shared} {p : Program} {loose : List Str} {mean : ExcName → Option Value} {mg mb : Str → Option Value} {Q : Flow → Shared → Prop} {E : Value → Shared → Prop} {u : Str → Option Value} {DW DT : Addr} {ws ts : List Value} {dr : List Int} {nw nt : Nat} {c3 c4 : Obj} {l : Lex} {tl tt : Tok} {X₁ : List (Addr × Obj)}
    (B : Below callerA g [] g) (F : Fr g L s.heap (kstB u [("text", .str ⟨(textN dr).toArray⟩ tt), ("told", .ref DT)])) (X₀ : (Mine.hd.heap_1 w.params).In g) (T : Top p loose mean mg mb g)
    (N : News g L s.heap X₁) (mT : (DT, listOf ts.toArray nt) ∈ X₁) (mW : (DW, listOf ws.toArray nw) ∈ X₁) (m3 : (L + 1 + 1 + 1, c3) ∈ X₁) (m4 : (L + 1 + 1, c4) ∈ X₁) (ml : (l.lx, instObj 87 l.dl) ∈ X₁) (md : (l.dl, dictOf (l.es w (1 + linesN dr 7) tl) 4) ∈ X₁)
    (d3 : c3.data = .cell (some (.ref l.lx))) (d4 : c4.data = .cell (some (.ref DW))) (h7 : dr.length = 7) (hdr : ∀ x ∈ dr, 0 ≤ x ∧ x < 288) (hts : StrsAre ts (toksN dr)) (hws : StrsAre ws (dr.map fun x => ⟨(wordN x).toArray⟩))
    (h : ∀ h' tk' u', Fr g L h' (kstB u' []) → News g L h' X₁ → 
      wpAny (model PySem.Challenge.rw_pg0112_01.row.prog w) (callerA.deeper (envOfC "law" lawS L fa cd)) (execs (lawB.drop 6) (envOfC "law" lawS L fa cd)) Q E { s with heap := h', toks := tk' }) :
    wpAny (model PySem.Challenge.rw_pg0112_01.row.prog w) (callerA.deeper (envOfC "law" lawS L fa cd)) (execs (lawB.drop 5) (envOfC "law" lawS L fa cd)) Q E s := by
  have eS : lawS = lawS := rfl
  conv at eS => rhs; whnf
  have eB : lawB = lawB := rfl
  conv at eB => rhs; whnf
  rw [eB] at h ⊢
  rw [eS] at h ⊢
  dsimp only [List.drop] at h ⊢
  clear eB eS
  revert X₀; k_fill; intro X₀
  replace N : News g L s.heap ((l.lx, instObj 87 l.dl) :: (l.dl, dictOf (l.es w (1 + linesN dr 7) tl) 4) :: (L + 1 + 1 + 1, c3) :: (L + 1 + 1, c4) :: X₁) := News.two (News.two N m3 m4) (.tail _ (.tail _ ml)) (.tail _ (.tail _ md))
  dsimp only [Lex.es] at N
  walk1
  walk
  rename Fr g L _ _ => F2
  rename News g L _ _ => N2
  refine kmk_add_lit (its := ws.toArray) (its2 := #[Value.str "" _]) (zs := ws ++ [.str "" _]) F2 N2 ?_ (N2.isList (.head _)) rfl ?_ ?_
  · exact N2.isList (n := nw) (.tail _ (.tail _ (.tail _ (.tail _ (.tail _ mW)))))
  · intro D2 h3 F3 N3 l3
    try dsimp only
    refine ne_strsK (us := ws ++ [.str "" _]) (N3.isList (n := nt) (.tail _ (.tail _ (.tail _ (.tail _ (.tail _ (.tail _ mT))))))) hts (N3.isList (n := 0) (.head _)) (strs_snoc hws) ?_ (Nat.le_of_ble_eq_true rfl) ?_
    · intro x hx
      rcases List.mem_append.mp hx with hx | hx
      · refine goal_G fun GG hGG => ?_
        obtain ⟨y, _, rfl⟩ := List.mem_map.mp hx
        refine hGG ?_
        clear hGG GG
        have hd := wordN_dig y
        show (wordN y).toArray.all (fun c => decide (c < 0x110000)) = true
        rw [List.all_toArray, List.all_eq_true]
        intro c hc
        have := (hd c hc).2
        exact decide_eq_true (by lia)
      · rcases List.mem_singleton.mp hx with rfl
        decide +kernel
    refine wpAny_truthy_bool ?_
    refine ifF (by decide) ?_
    repeat' ((fail_if_success (with_reducible show wpAny _ _ (PySem.call (Value.builtin _) _ _) _ _ _)); walk1; try dsimp only)
    refine SC.count ?_
    rw [count_text h7 hdr]
    repeat' ((fail_if_success (with_reducible show wpAny _ _ (truthy (Value.bool _)) _ _ _)); (fail_if_success (with_reducible show wpAny _ _ (execs _ _) _ _ _)); walk1; try dsimp only)
    refine wpAny_truthy_bool ?_
    rw [if_neg (by rw [Int.add_comm]; simp)]
    repeat' ((fail_if_success (with_reducible show wpAny _ _ (execs (_ :: _) _) _ _ _)); walk1; try dsimp only)
    first | refine Exists.elim (Fr.some F3 [] trivial) fun u' F4 => ?_ | refine and_on2 (Fr.some F3 [] trivial) fun u' F4 => ?_
    exact h _ _ u' F4 (News.sub N3 fun p hp => .tail _ (.tail _ (.tail _ (.tail _ (.tail _ (.tail _ hp))))))
  · have h1 := strs_len hws
    rw [List.length_map, h7] at h1
    show ws.length + 1 ≤ sizeLine
    rw [h1, sizeLine_eq]; decide
end
section
theorem law_7 {w : World} {g : Heap} {L fa : Addr} {cd : Value} {s : Shared} {p : Program} {loose : List Str} {mean : ExcName → Option Value} {mg mb : Str → Option Value} {Q : Flow → Shared → Prop} {E : Value → Shared → Prop} {u : Str → Option Value} {DW : Addr} {ws : List Value} {dr : List Int} {nw : Nat} {c2 c4 : Obj} {k2 : Option Value} {X₁ : List (Addr × Obj)}
    (B : Below callerA g [] g) (F : Fr g L s.heap (kstB u [])) (X₀ : (Mine.hd.heap_1 w.params).In g) (T : Top p loose mean mg mb g)
    (N : News g L s.heap ((L + 1 + 1 + 1 + 1, c2) :: X₁)) (oc : Off (L + 1 + 1 + 1 + 1) X₁) (mW : (DW, listOf ws.toArray nw) ∈ X₁) (m4 : (L + 1 + 1, c4) ∈ X₁)
    (d2 : c2.data = .cell k2) (d4 : c4.data = .cell (some (.ref DW))) (h7 : dr.length = 7) (hdr : ∀ x ∈ dr, 0 ≤ x ∧ x < 288) (hws : StrsAre ws (dr.map fun x => ⟨(wordN x).toArray⟩))
    (h : ∀ h' tk' u' DH hs nh c2', Fr g L h' (kstB u' []) → News g L h' ((DH, listOf hs.toArray nh) :: (L + 1 + 1 + 1 + 1, c2') :: X₁) → (∀ p ∈ (L + 1 + 1 + 1 + 1, c2) :: X₁, p.1 ≠ DH) → c2'.data = .cell (some (.ref DH)) → IntsAre hs (dr.map (· % 48)) → 
      wpAny (model PySem.Challenge.rw_pg0112_01.row.prog w) (callerA.deeper (envOfC "law" lawS L fa cd)) (execs (lawB.drop 7) (envOfC "law" lawS L fa cd)) Q E { s with heap := h', toks := tk' }) :
    wpAny (model PySem.Challenge.rw_pg0112_01.row.prog w) (callerA.deeper (envOfC "law" lawS L fa cd)) (execs (lawB.drop 6) (envOfC "law" lawS L fa cd)) Q E s := by
  have eS : lawS = lawS := rfl
  conv at eS => rhs; whnf
  have eB : lawB = lawB := rfl
  conv at eB => rhs; whnf
  rw [eB] at h ⊢
  rw [eS] at h ⊢
  dsimp only [List.drop] at h ⊢
  clear eB eS
  revert X₀; k_fill; intro X₀
  have N1 : News g L s.heap ((L + 1 + 1, c4) :: (L + 1 + 1 + 1 + 1, c2) :: X₁) := News.one N (.tail _ m4)
  walk1
  walk
  refine LC_eval (h₀ := g) (L := L) (m := kstB u []) (by rfl) (by decide) rfl (by decide) ?_
  walk
  have hwl := strs_len hws
  rw [List.length_map] at hwl
  refine lc_map_list (vs := ws) (fun i ys rest => rest = (L + 1 + 1 + 1 + 1, c2) :: X₁ ∧ i ≤ ws.length ∧ IntsAre ys ((dr.map (· % 48)).take i))
    rfl rfl rfl F N (N.isList (n := nw) (.tail _ mW)) (by lia) ⟨rfl, Nat.zero_le _, .nil⟩ ?_ ?_ ?_ ?_
  · intro i ys rest hPP
    have hi := hPP.2.1
    have := hPP.2.2.length
    rw [List.length_take, List.length_map] at this
    lia
  · intro i ys rest h hPP _ N2
    rw [hPP.1] at N2
    exact N2.isList (n := nw) (.tail _ mW)
  · intro i ys rest I oI C oC mc D ne h tk hi hPP F8 N8 hC hx Jt hJt
    refine and_on3 hPP fun hre hi' hys => ?_
    clear hPP
    rw [hre] at N8
    first | refine Exists.elim (strs_at hws i hi) fun t hv => ?_ | refine and_on2 (strs_at hws i hi) fun t hv => ?_
    rw [getD_map0 (by lia)] at hv
    rw [hv] at hx
    have hw := take_map_succ (f := fun x => x % 48) (dr := dr) (i := i) (by lia)
    first | refine Exists.elim (hdr _ (getD_mem0 (dr := dr) (i := i) (by lia))) fun x0 x1 => ?_ | refine and_on2 (hdr _ (getD_mem0 (dr := dr) (i := i) (by lia))) fun x0 x1 => ?_
    generalize dr.getD i 0 = x at hx x0 x1 hw
    have N8' := N8
    walk
    unfold wordN
    refine lift rfl (Nat.le_of_ble_eq_true rfl) rfl (Nat.le_of_ble_eq_true rfl) (hue_spec (pl := (x % 48).toNat) (g := (x / 48 % 2).toNat) B F8 X₀ T rfl N8' (by lia) (by lia) ?_)
    intro h9 tk9 ti F9 N9
    rw [show (((x % 48).toNat : Nat) : Int) = x % 48 from by lia]
    refine EltDone.same F9 (by rw [hre]; exact N9) (hJt _ _ ⟨hre, by lia, ?_⟩)
    rw [hw]
    exact hys.append (.cons _ _ .nil)
  intro hh D ys n2 rest hPP h9 tk9 F9 N9 o9
  have hys := hPP.2.2
  rw [hPP.1] at N9 o9
  clear hPP
  rw [List.take_of_length_le (by rw [List.length_map]; lia)] at hys
  clear N N1 F
  have N5 : News g L h9 ((L + 1 + 1 + 1 + 1, c2) :: (D, listOf ys.toArray n2) :: X₁) := News.swap N9
  refine storeX_C F9 N5 rfl (UpdF.head (Off.cons (Ne.symm (o9 _ (.head _))) oc)) d2 ?_
  intro h6 c2' F6 N6 d2'
  exact h h6 _ u D ys n2 c2' F6 (News.swap N6) o9 d2' hys
end
section
theorem law_8 {w : World} {g : Heap} {L fa : Addr} {cd : Value} {s : Shared} {p : Program} {loose : List Str} {mean : ExcName → Option Value} {mg mb : Str → Option Value} {Q : Flow → Shared → Prop} {E : Value → Shared → Prop} {u : Str → Option Value} {DR DH : Addr} {us hs : List Value} {dr : List Int} {n nh : Nat} {c2 c5 : Obj} {X₁ : List (Addr × Obj)}
    (B : Below callerA g [] g) (F : Fr g L s.heap (kstB u [])) (X₀ : (Mine.hd.heap_1 w.params).In g) (T : Top p loose mean mg mb g)
    (N : News g L s.heap X₁) (mH : (DH, listOf hs.toArray nh) ∈ X₁) (m2 : (L + 1 + 1 + 1 + 1, c2) ∈ X₁) (m5 : (L + 1, c5) ∈ X₁) (mR : (DR, listOf us.toArray n) ∈ X₁)
    (d2 : c2.data = .cell (some (.ref DH))) (d5 : c5.data = .cell (some (.ref DR))) (h7 : dr.length = 7) (hus : IntsAre us dr) (hhs : IntsAre hs (dr.map (· % 48)))
    (h : ∀ h' tk' u', Fr g L h' (kstB u' []) → News g L h' X₁ → 
      wpAny (model PySem.Challenge.rw_pg0112_01.row.prog w) (callerA.deeper (envOfC "law" lawS L fa cd)) (execs (lawB.drop 8) (envOfC "law" lawS L fa cd)) Q E { s with heap := h', toks := tk' }) :
    wpAny (model PySem.Challenge.rw_pg0112_01.row.prog w) (callerA.deeper (envOfC "law" lawS L fa cd)) (execs (lawB.drop 7) (envOfC "law" lawS L fa cd)) Q E s := by
  have eS : lawS = lawS := rfl
  conv at eS => rhs; whnf
  have eB : lawB = lawB := rfl
  conv at eB => rhs; whnf
  rw [eB] at h ⊢
  rw [eS] at h ⊢
  dsimp only [List.drop] at h ⊢
  clear eB eS
  revert X₀; k_fill; intro X₀
  have N1 : News g L s.heap ((L + 1 + 1 + 1 + 1, c2) :: (L + 1, c5) :: X₁) := News.two N m2 m5
  walk1
  walk
  refine LC_eval (h₀ := g) (L := L) (m := kstB u []) (by rfl) (by decide) rfl (by decide) ?_
  walk
  have hul := hus.length
  refine lc_map_list (vs := us) (fun i ys rest => rest = X₁ ∧ i ≤ us.length ∧ IntsAre ys ((dr.map (· % 48)).take i))
    rfl rfl rfl F N (N.isList (n := n) mR) (by lia) ⟨rfl, Nat.zero_le _, .nil⟩ ?_ ?_ ?_ ?_
  · intro i ys rest hPP
    have hi := hPP.2.1
    have := hPP.2.2.length
    rw [List.length_take, List.length_map] at this
    lia
  · intro i ys rest h hPP _ N2
    exact N2.isList (n := n) (hPP.1 ▸ mR)
  · intro i ys rest I oI C oC mc D ne h tk hi hPP F8 N8 hC hx Jt hJt
    refine and_on3 hPP fun hre hi' hys => ?_
    clear hPP
    rw [hre] at N8
    first | refine Exists.elim (ints_at hus hi) fun t hv => ?_ | refine and_on2 (ints_at hus hi) fun t hv => ?_
    rw [hv] at hx
    have hw := take_map_succ (f := fun x => x % 48) (dr := dr) (i := i) (by lia)
    generalize dr.getD i 0 = x at hx hw
    iterate 10 (try (walk1; try dsimp only))
    refine EltDone.same F8 (by rw [hre]; exact N8) (hJt _ _ ⟨hre, by lia, ?_⟩)
    rw [hw, Int.fmod_eq_emod_of_nonneg _ (by decide)]
    exact hys.append (.cons _ _ .nil)
  intro hh D ys n2 rest hPP h9 tk9 F9 N9 o9
  have hys := hPP.2.2
  rw [hPP.1] at N9
  clear hPP
  rw [List.take_of_length_le (by rw [List.length_map]; lia)] at hys
  clear N N1 F
  refine ne_intsK (N9.isList (n := nh) (.tail _ mH)) hhs (N9.isList (n := n2) (.head _)) hys (Nat.le_of_ble_eq_true rfl) ?_
  refine wpAny_truthy_bool ?_
  refine ifF (by simp) ?_
  have N10 := News.sub N9 fun p hp => List.Mem.tail _ hp
  first | refine Exists.elim (Fr.some F9 [] trivial) fun u' F10 => ?_ | refine and_on2 (Fr.some F9 [] trivial) fun u' F10 => ?_
  repeat' ((fail_if_success (with_reducible show wpAny _ _ (execs (_ :: _) _) _ _ _)); walk1; try dsimp only)
  exact h _ _ u' F10 N10
end
section
/-- the table of keys -/
noncomputable def tblN (dr : List Int) (i j : Nat) : Key := (min ((dr.getD i 0 % 48 - dr.getD (4 + j) 0 % 48) % 48) ((dr.getD (4 + j) 0 % 48 - dr.getD i 0 % 48) % 48), (i : Int), (j : Int))
noncomputable abbrev Rws := List (Addr × List (Addr × Key) × Nat)
noncomputable def RowOk (tbl : Nat → Nat → Key) (ts : List (Addr × Obj)) (i : Nat) (r : Addr × List (Addr × Key) × Nat) : Prop :=
  (r.1, listOf (pvs r.2.1).toArray r.2.2) ∈ ts ∧ r.2.1.map (·.2) = [tbl i 0, tbl i 1, tbl i 2] ∧ ∀ q ∈ r.2.1, PairIn ts q
noncomputable def RowsOk (tbl : Nat → Nat → Key) (ts : List (Addr × Obj)) (n : Nat) (rws : Rws) : Prop := rws.length = n ∧ ∀ i, i < n → ∃ r, rws[i]? = some r ∧ RowOk tbl ts i r
theorem law_9 {w : World} {g : Heap} {L fa : Addr} {cd : Value} {s : Shared} {p : Program} {loose : List Str} {mean : ExcName → Option Value} {mg mb : Str → Option Value} {Q : Flow → Shared → Prop} {E : Value → Shared → Prop} {u : Str → Option Value} {DH : Addr} {hs : List Value} {dr : List Int} {nh : Nat} {c2 : Obj} {X₁ : List (Addr × Obj)}
    (B : Below callerA g [] g) (F : Fr g L s.heap (kstB u [])) (X₀ : (Mine.hd.heap_1 w.params).In g) (T : Top p loose mean mg mb g)
    (N : News g L s.heap X₁) (mH : (DH, listOf hs.toArray nh) ∈ X₁) (m2 : (L + 1 + 1 + 1 + 1, c2) ∈ X₁)
    (d2 : c2.data = .cell (some (.ref DH))) (h7 : dr.length = 7) (hhs : IntsAre hs (dr.map (· % 48)))
    (h : ∀ h' tk' u' DK nk (rws : Rws) (ts : List (Addr × Obj)), Fr g L h' (kstB u' [("keys", .ref DK)]) → News g L h' ((DK, listOf (rws.map (fun r => Value.ref r.1)).toArray nk) :: (ts ++ X₁)) →
      (∀ p ∈ ts ++ X₁, p.1 ≠ DK) → (∀ q ∈ ts, Off q.1 X₁) → RowsOk (tblN dr) ts 4 rws →
      wpAny (model PySem.Challenge.rw_pg0112_01.row.prog w) (callerA.deeper (envOfC "law" lawS L fa cd)) (execs (lawB.drop 9) (envOfC "law" lawS L fa cd)) Q E { s with heap := h', toks := tk' }) :
    wpAny (model PySem.Challenge.rw_pg0112_01.row.prog w) (callerA.deeper (envOfC "law" lawS L fa cd)) (execs (lawB.drop 8) (envOfC "law" lawS L fa cd)) Q E s := by
  have eS : lawS = lawS := rfl
  conv at eS => rhs; whnf
  have eB : lawB = lawB := rfl
  conv at eB => rhs; whnf
  rw [eB] at h ⊢
  rw [eS] at h ⊢
  dsimp only [List.drop] at h ⊢
  clear eB eS
  revert X₀; k_fill; intro X₀
  walk1
  refine LC_assign1 (h₀ := g) (L := L) (m := kstB u []) rfl (by rfl) (by rfl) (by decide) (by decide) (by decide) (by decide) rfl rfl ?_
  walk
  rename IsRange _ _ _ _ _ _ _ _ => hR
  rename Fr g L _ _ => F5
  rename News g L _ _ => N5

  have hhl := hhs.length
  rw [List.length_map] at hhl
  refine lc_map_range1G (k := 4) (fun i ys rest => Ex2 fun (rws : Rws) (ts : List (Addr × Obj)) => ys = rws.map (fun r => Value.ref r.1) ∧ rest = ts ++ X₁ ∧ (∀ q ∈ ts, Off q.1 X₁) ∧ RowsOk (tblN dr) ts i rws)
    rfl (fun _ _ => rfl) rfl F5 N5 hR (by decide) (by decide) (by lia) (Ex2.mk [] [] ⟨rfl, rfl, (fun _ h => nomatch h), rfl, (fun _ h => absurd h (Nat.not_lt_zero _))⟩) ?_ ?_ ?_
  · intro i ys rest hPP
    refine hPP _ fun rws ts hA => ?_
    rw [hA.1, List.length_map, hA.2.2.2.1]
  · intro i ys rest I oI C oC mc c oc D ne h tk ti hi hPP F8 N8 hC hoc off nCI nDI nCD ncC ncD ncI Jt hJt
    refine hPP _ fun rws ts hA => ?_
    refine and_on4 hA fun hye hre hts hrw => ?_
    clear hA hPP
    rw [hye, hre] at N8
    rw [hre] at off
    have md : (DH, listOf hs.toArray nh) ∈ [(c, oc), (C, oC), (I, oI), (D, listOf (rws.map (fun r => Value.ref r.1)).toArray ne)] ++ (ts ++ X₁) := List.mem_append_right _ (List.mem_append_right _ mH)
    have m2' : (L + 1 + 1 + 1 + 1, c2) ∈ [(c, oc), (C, oC), (I, oI), (D, listOf (rws.map (fun r => Value.ref r.1)).toArray ne)] ++ (ts ++ X₁) := List.mem_append_right _ (List.mem_append_right _ m2)
    have mc' : (c, oc) ∈ [(c, oc), (C, oC), (I, oI), (D, listOf (rws.map (fun r => Value.ref r.1)).toArray ne)] ++ (ts ++ X₁) := .head _
    generalize hX : [(c, oc), (C, oC), (I, oI), (D, listOf (rws.map (fun r => Value.ref r.1)).toArray ne)] ++ (ts ++ X₁) = X at N8 md m2' mc'
    refine LC_eval (h₀ := g) (L := L) (m := kstB u []) (by rfl) (by decide) rfl (by decide) ?_
    walk
    rename IsRange _ _ _ _ _ _ _ _ => hR2
    rename Fr g L _ _ => F9
    rename News g L _ _ => N9
    refine lc_map_rangeG (k := 3) (fun j ys rest => Ex2 fun (aps : List (Addr × Key)) (ts2 : List (Addr × Obj)) => ys = pvs aps ∧ rest = ts2 ++ X ∧ (∀ q ∈ ts2, Off q.1 X) ∧ aps.map (·.2) = (List.range j).map (tblN dr i) ∧ ∀ q ∈ aps, PairIn ts2 q)
      rfl rfl rfl F9 N9 hR2 (by decide) (by decide) (by lia) (Ex2.mk [] [] ⟨rfl, rfl, (fun _ h => nomatch h), rfl, (fun _ h => nomatch h)⟩) ?_ ?_ ?_
    · intro j ys rest hPP
      refine hPP _ fun aps ts2 hA => ?_
      rw [hA.1]
      have := congrArg List.length hA.2.2.2.1
      rw [List.length_map, List.length_map, List.length_range] at this
      rw [List.length_map, this]
    · clear F9 N9 hR2
      intro j ys rest I2 oI2 C2 oC2 mc2 D2 ne2 h2 tk2 tj hj hPP F10 N10 hC2 hx2 off2 nCI2 nDI2 nCD2 Jt2 hJt2
      refine hPP _ fun aps ts2 hA => ?_
      refine and_on5 hA fun hye2 hre2 hts2 haps hpin => ?_
      clear hA hPP
      rw [hye2, hre2] at N10
      generalize hX2 : [(C2, oC2), (I2, oI2), (D2, listOf (pvs aps).toArray ne2)] ++ (ts2 ++ X) = X2 at N10
      have sX : ∀ p ∈ X, p ∈ X2 := fun p hp => by rw [← hX2]; simp [hp]
      have mC2 : (C2, oC2) ∈ X2 := by rw [← hX2]; exact .head _
      have N11 : News g L h2 ((C2, oC2) :: (c, oc) :: (L + 1 + 1 + 1 + 1, c2) :: (DH, listOf hs.toArray nh) :: X2) := News.sub N10 fun p hp => by
        rcases List.mem_cons.mp hp with rfl | hp
        · exact mC2
        · rcases List.mem_cons.mp hp with rfl | hp
          · exact sX _ mc'
          · rcases List.mem_cons.mp hp with rfl | hp
            · exact sX _ m2'
            · rcases List.mem_cons.mp hp with rfl | hp
              · exact sX _ md
              · exact hp
      clear N10
      walk
      rename_i D3 h3 F13 N13 l1
      have hlt := fun p hp => tb_ltOf l1.2.2.2.2 p hp
      have eI : (dr.map (fun x => x % 48)).getD ((i : Int)).toNat 0 = dr.getD i 0 % 48 := getD_map0 (f := fun x => x % 48) (by show i < dr.length; lia)
      have eJ : (dr.map (fun x => x % 48)).getD (4 + (j : Int)).toNat 0 = dr.getD (4 + j) 0 % 48 := by
        rw [show (4 + (j : Int)).toNat = 4 + j from by lia]
        exact getD_map0 (f := fun x => x % 48) (by lia)
      rw [eI, eJ] at N13
      have eM : (if (dr.getD (4 + j) 0 % 48 - dr.getD i 0 % 48).fmod 48 < (dr.getD i 0 % 48 - dr.getD (4 + j) 0 % 48).fmod 48 then (dr.getD (4 + j) 0 % 48 - dr.getD i 0 % 48).fmod 48 else (dr.getD i 0 % 48 - dr.getD (4 + j) 0 % 48).fmod 48) = (tblN dr i j).1 := by
        rw [Int.fmod_eq_emod_of_nonneg _ (by decide), Int.fmod_eq_emod_of_nonneg _ (by decide)]
        show _ = min _ _
        rw [Int.min_def]
        split <;> split <;> lia
      rw [eM] at N13
      refine EltG.one F13 N13 (fun p hp => ?_) (fun p hp => hlt p (by rw [← hX2]; rw [hye2, hre2] at hp; exact hp)) (hJt2 _ _ (Ex2.mk (aps ++ [(D3, tblN dr i j)]) ((D3, _) :: ts2) ⟨?_, (by rw [hre2]; rfl), ?_, ?_, ?_⟩))
      · rw [← hX2]
        rw [hye2, hre2] at hp
        exact .tail _ (.tail _ (.tail _ (.tail _ hp)))
      · rw [hye2]; simp only [List.map_append, List.map_cons, List.map_nil]
      · intro q hq
        rcases List.mem_cons.mp hq with rfl | hq
        · exact fun p hp => Nat.ne_of_lt (hlt p (sX p hp))
        · exact hts2 q hq
      · rw [List.map_append, haps, List.range_succ, List.map_append]; rfl
      · intro q hq
        rcases List.mem_append.mp hq with hq | hq
        · exact (hpin q hq).sub fun p hp => .tail _ hp
        · rw [List.mem_singleton] at hq
          subst hq
          exact ⟨_, .head _, _, _, _, _, _, _, rfl⟩
    · intro hh D2 ys2 n2 rest2 hPP h9 tk9 F11 N11 o9
      refine hPP _ fun aps ts2 hA => ?_
      refine and_on5 hA fun hye2 hre2 hts2 haps hpin => ?_
      clear hA hPP
      rw [hye2, hre2] at N11
      rw [hre2] at o9
      refine goal_G fun GG hGG => ?_
      subst hye
      subst hre
      refine hGG ?_
      clear hGG GG
      refine EltG.to (fresh := (D2, listOf (pvs aps).toArray n2) :: ts2) F11 (News.sub N11 fun p hp => ?_) ?_ (hJt _ _ (Ex2.mk (rws ++ [(D2, aps, n2)]) ((D2, listOf (pvs aps).toArray n2) :: (ts2 ++ ts)) ⟨?_, ?_, ?_, ?_, ?_⟩))
      · rcases List.mem_append.mp hp with h | h
        · exact .tail _ (List.mem_append_right _ (by rw [← hX]; exact List.mem_append_left _ h))
        · rcases List.mem_append.mp h with h | h
          · rcases List.mem_cons.mp h with h | h
            · rw [h]; exact .head _
            · exact .tail _ (List.mem_append_left _ h)
          · exact .tail _ (List.mem_append_right _ (by rw [← hX]; exact List.mem_append_right _ h))
      · intro q hq
        rw [List.cons_append] at hX
        rcases List.mem_cons.mp hq with rfl | hq
        · exact fun p hp => o9 p (List.mem_append_right _ (by rw [← hX]; exact hp))
        · exact fun p hp => hts2 q hq p (by rw [← hX]; exact hp)
      · simp only [List.map_append, List.map_cons, List.map_nil]
      · simp only [List.cons_append, List.append_assoc]
      · intro q hq p hp
        have hpX : p ∈ X := by
          rw [← hX]; exact List.mem_append_right _ (List.mem_append_right _ hp)
        rcases List.mem_cons.mp hq with rfl | hq
        · exact o9 p (List.mem_append_right _ hpX)
        · rcases List.mem_append.mp hq with hq | hq
          · exact hts2 q hq p hpX
          · exact hts q hq p hp
      · rw [List.length_append, hrw.1]; rfl
      · intro i' hi'
        by_cases e : i' = i
        · subst e
          refine ⟨(D2, aps, n2), by rw [List.getElem?_append_right (by rw [hrw.1]; exact Nat.le_refl _), hrw.1, Nat.sub_self]; rfl, .head _, haps, fun q hq => (hpin q hq).sub fun p hp => .tail _ (List.mem_append_left _ hp)⟩
        · obtain ⟨r, hr, h1, h2, h3⟩ := hrw.2 i' (by lia)
          exact ⟨r, by rw [List.getElem?_append_left (by rw [hrw.1]; lia)]; exact hr, .tail _ (List.mem_append_right _ h1), h2, fun q hq => (h3 q hq).sub fun p hp => .tail _ (List.mem_append_right _ hp)⟩
  · intro hh D ys n2 rest hPP h9 tk9 F11 N11 o9
    refine hPP _ fun rws ts hA => ?_
    refine and_on4 hA fun hye hre hts hrw => ?_
    clear hA hPP
    rw [hye, hre] at N11
    rw [hre] at o9
    obtain ⟨u', F12⟩ := Fr.some F11 [("keys", .ref D)] ⟨rfl, trivial⟩
    exact h h9 _ u' D n2 rws ts F12 N11 o9 hts hrw
end
section
/-- not above -/
noncomputable def kle (a b : Key) : Prop := keyLt b a = false
theorem keyLt_iff {a b : Key} : keyLt a b = true ↔ (a.1 < b.1 ∨ (a.1 = b.1 ∧ (a.2.1 < b.2.1 ∨ (a.2.1 = b.2.1 ∧ a.2.2 < b.2.2)))) := decide_eq_true_iff
theorem lex_tri {x y : Int} {P : Prop} (h1 : x < y → P) (h2 : x = y → P) (h3 : y < x → P) : P := (Int.lt_or_le x y).elim h1 fun h => (Int.lt_or_eq_of_le h).elim h3 fun e => h2 e.symm
theorem klt_irr (a : Key) : keyLt a a = false := by
  cases h : keyLt a a with
  | false => rfl
  | true =>
    rcases keyLt_iff.mp h with h | ⟨_, h | ⟨_, h⟩⟩ <;> exact absurd h (Int.lt_irrefl _)
theorem klt_trans {a b c : Key} (h1 : keyLt a b = true) (h2 : keyLt b c = true) : keyLt a c = true := by
  rw [keyLt_iff] at h1 h2 ⊢
  rcases h1 with h1 | ⟨e1, h1⟩
  · rcases h2 with h2 | ⟨e2, _⟩
    · exact .inl (Int.lt_trans h1 h2)
    · exact .inl (e2 ▸ h1)
  · rcases h2 with h2 | ⟨e2, h2⟩
    · exact .inl (e1 ▸ h2)
    · refine .inr ⟨e1.trans e2, ?_⟩
      rcases h1 with h1 | ⟨f1, h1⟩
      · rcases h2 with h2 | ⟨f2, _⟩
        · exact .inl (Int.lt_trans h1 h2)
        · exact .inl (f2 ▸ h1)
      · rcases h2 with h2 | ⟨f2, h2⟩
        · exact .inl (f1 ▸ h2)
        · exact .inr ⟨f1.trans f2, Int.lt_trans h1 h2⟩
theorem klt_tri {a b : Key} : keyLt a b = true ∨ a = b ∨ keyLt b a = true := by
  obtain ⟨a1, a2, a3⟩ := a
  obtain ⟨b1, b2, b3⟩ := b
  refine lex_tri (x := a1) (y := b1) (fun h => .inl (keyLt_iff.mpr (.inl h))) (fun e1 => ?_) (fun h => .inr (.inr (keyLt_iff.mpr (.inl h))))
  refine lex_tri (x := a2) (y := b2) (fun h => .inl (keyLt_iff.mpr (.inr ⟨e1, .inl h⟩))) (fun e2 => ?_) (fun h => .inr (.inr (keyLt_iff.mpr (.inr ⟨e1.symm, .inl h⟩))))
  refine lex_tri (x := a3) (y := b3) (fun h => .inl (keyLt_iff.mpr (.inr ⟨e1, .inr ⟨e2, h⟩⟩))) (fun e3 => ?_) (fun h => .inr (.inr (keyLt_iff.mpr (.inr ⟨e1.symm, .inr ⟨e2.symm, h⟩⟩))))
  exact .inr (.inl (by rw [e1, e2, e3]))
theorem kle_refl (a : Key) : kle a a := klt_irr a
theorem klt_asym {a b : Key} (h : keyLt a b = true) : keyLt b a = false := by
  cases h' : keyLt b a with
  | false => rfl
  | true => exact absurd (klt_trans h h') (by rw [klt_irr]; simp)
theorem kle_of_lt {a b : Key} (h : keyLt a b = true) : kle a b := klt_asym h
theorem kle_of_not {a b : Key} (h : ¬ keyLt a b = true) : kle b a := by
  simpa only [kle, Bool.not_eq_true] using h
theorem klt_of_le_ne {a b : Key} (h : kle a b) (hne : a ≠ b) : keyLt a b = true := by
  rcases klt_tri (a := a) (b := b) with h1 | h1 | h1
  · exact h1
  · exact absurd h1 hne
  · exact absurd h1 (by unfold kle at h; rw [h]; simp)
theorem kle_anti {a b : Key} (h1 : kle a b) (h2 : kle b a) : a = b := by
  refine Classical.byContradiction fun e => ?_
  have := klt_of_le_ne h1 e
  unfold kle at h2
  rw [h2] at this; cases this
theorem klt_le {a b c : Key} (h1 : keyLt a b = true) (h2 : kle b c) : keyLt a c = true := by
  by_cases e : b = c
  · rw [← e]; exact h1
  · exact klt_trans h1 (klt_of_le_ne h2 e)
theorem kle_lt {a b c : Key} (h1 : kle a b) (h2 : keyLt b c = true) : keyLt a c = true := by
  by_cases e : a = b
  · rw [e]; exact h2
  · exact klt_trans (klt_of_le_ne h1 e) h2
theorem kle_trans {a b c : Key} (h1 : kle a b) (h2 : kle b c) : kle a c := by
  by_cases e : a = b
  · rw [e]; exact h2
  · exact kle_of_lt (klt_le (klt_of_le_ne h1 e) h2)

noncomputable abbrev K0 : Key := (0, 0, 0)
theorem getD_set (ks : List Key) (i j : Nat) (x : Key) (hi : i < ks.length) : (ks.set i x).getD j K0 = if j = i then x else ks.getD j K0 := by
  rw [List.getD_eq_getElem?_getD, List.getD_eq_getElem?_getD, List.getElem?_set]
  by_cases h : j = i
  · subst h; simp [hi]
  · rw [if_neg (Ne.symm h), if_neg h]
theorem mem_getD {ks : List Key} {k : Key} : k ∈ ks ↔ ∃ i, i < ks.length ∧ ks.getD i K0 = k := by
  constructor
  · intro h
    obtain ⟨i, hi, e⟩ := List.mem_iff_getElem.mp h
    exact ⟨i, hi, by rw [List.getD_eq_getElem?_getD, List.getElem?_eq_getElem hi]; exact e⟩
  · rintro ⟨i, hi, rfl⟩
    exact getD_mem ks i hi
/-- a hole moves: what is in the list, the hole filled with x, stays -/
theorem mem_swap {ks : List Key} {q q1 : Nat} {x : Key} (hq : q < ks.length) (h1 : q1 < ks.length) (hne : q ≠ q1) (k : Key) :
    k ∈ (ks.set q (ks.getD q1 K0)).set q1 x ↔ k ∈ ks.set q x := by
  have L1 : ∀ j, ((ks.set q (ks.getD q1 K0)).set q1 x).getD j K0 = if j = q1 then x else if j = q then ks.getD q1 K0 else ks.getD j K0 := fun j => by
    rw [getD_set _ _ _ _ (by rw [List.length_set]; exact h1), getD_set _ _ _ _ hq]
  have L2 : ∀ j, (ks.set q x).getD j K0 = if j = q then x else ks.getD j K0 := fun j => getD_set _ _ _ _ hq
  rw [mem_getD, mem_getD, List.length_set, List.length_set, List.length_set]
  constructor
  · rintro ⟨i, hi, rfl⟩
    rw [L1]
    by_cases a : i = q1
    · exact ⟨q, hq, by rw [L2, if_pos rfl, if_pos a]⟩
    · rw [if_neg a]
      by_cases b : i = q
      · exact ⟨q1, h1, by rw [L2, if_neg (Ne.symm hne), if_pos b]⟩
      · exact ⟨i, hi, by rw [L2, if_neg b, if_neg b]⟩
  · rintro ⟨i, hi, rfl⟩
    rw [L2]
    by_cases a : i = q
    · exact ⟨q1, h1, by rw [L1, if_pos rfl, if_pos a]⟩
    · rw [if_neg a]
      by_cases b : i = q1
      · exact ⟨q, hq, by rw [L1, if_neg hne, if_pos rfl, b]⟩
      · exact ⟨i, hi, by rw [L1, if_neg b, if_neg a]⟩

/-- q stands below pos in the tree -/
inductive Desc (pos : Nat) : Nat → Prop where
  | self : Desc pos pos
  | left {q : Nat} : Desc pos q → Desc pos (2 * q + 1)
  | right {q : Nat} : Desc pos q → Desc pos (2 * q + 2)
theorem Desc.ge {pos q : Nat} (h : Desc pos q) : pos ≤ q := by
  induction h with
  | self => exact Nat.le_refl _
  | left _ ih => lia
  | right _ ih => lia
theorem Desc.up {pos q : Nat} (h : Desc pos q) (hne : pos < q) : Desc pos ((q - 1) / 2) := by
  cases h with
  | self => lia
  | left h => rename_i q'; rw [show (2 * q' + 1 - 1) / 2 = q' from by lia]; exact h
  | right h => rename_i q'; rw [show (2 * q' + 2 - 1) / 2 = q' from by lia]; exact h

noncomputable def HeapFrom (ks : List Key) (i : Nat) : Prop := ∀ c, 1 ≤ c → c < ks.length → i ≤ (c - 1) / 2 → kle (ks.getD ((c - 1) / 2) K0) (ks.getD c K0)

theorem sdown_heap (x : Key) (pos : Nat) : ∀ (q : Nat) (ks : List Key), Desc pos q → q < ks.length →
    (∀ c, 1 ≤ c → c < ks.length → pos ≤ (c - 1) / 2 → c ≠ q → (c - 1) / 2 ≠ q → kle (ks.getD ((c - 1) / 2) K0) (ks.getD c K0)) →
    (∀ c, 1 ≤ c → c < ks.length → (c - 1) / 2 = q → kle x (ks.getD c K0)) →
    (∀ c, 1 ≤ c → c < ks.length → (c - 1) / 2 = q → pos < q → kle (ks.getD ((q - 1) / 2) K0) (ks.getD c K0)) →
    HeapFrom (sdown ks x pos q) pos ∧ ∀ k, k ∈ sdown ks x pos q ↔ k ∈ ks.set q x := by
  intro q
  induction q using Nat.strongRecOn with
  | ind q ih =>
    intro ks hd hq hE hC hG
    have stop : (pos < q → kle (ks.getD ((q - 1) / 2) K0) x) → HeapFrom (ks.set q x) pos ∧ ∀ k, k ∈ ks.set q x ↔ k ∈ ks.set q x := by
      intro hp
      refine ⟨fun c h1 h2 h3 => ?_, fun _ => Iff.rfl⟩
      rw [List.length_set] at h2
      rw [getD_set _ _ _ _ hq, getD_set _ _ _ _ hq]
      by_cases a : c = q
      · subst a
        rw [if_pos rfl, if_neg (by lia)]
        exact hp (by lia)
      · rw [if_neg a]
        by_cases b : (c - 1) / 2 = q
        · rw [if_pos b]; exact hC c h1 h2 b
        · rw [if_neg b]; exact hE c h1 h2 h3 a b
    rw [sdown_eq]
    by_cases h : pos < q
    · rw [dif_pos h]
      have hd1 := hd.up h
      have g1 := hd1.ge
      generalize hq1 : (q - 1) / 2 = q1 at *
      have lt1 : q1 < q := by lia
      by_cases hlt : keyLt x (ks.getD q1 (0, 0, 0)) = true
      · rw [if_pos hlt]
        have hlt' : keyLt x (ks.getD q1 K0) = true := hlt
        have r := ih q1 lt1 (ks.set q (ks.getD q1 K0)) hd1 (by rw [List.length_set]; lia) ?_ ?_ ?_
        · refine ⟨r.1, fun k => (r.2 k).trans ?_⟩
          exact mem_swap hq (by lia) (by lia) k
        · intro c h1 h2 h3 h4 h5
          rw [List.length_set] at h2
          rw [getD_set _ _ _ _ hq, getD_set _ _ _ _ hq]
          by_cases a : c = q
          · subst a; exact absurd hq1 h5
          · rw [if_neg a]
            by_cases b : (c - 1) / 2 = q
            · rw [if_pos b]; exact hG c h1 h2 b h
            · rw [if_neg b]; exact hE c h1 h2 h3 a b
        · intro c h1 h2 h3
          rw [List.length_set] at h2
          rw [getD_set _ _ _ _ hq]
          by_cases a : c = q
          · rw [if_pos a]; exact kle_of_lt hlt'
          · rw [if_neg a]
            have := hE c h1 h2 (by lia) a (by lia)
            rw [h3] at this
            exact kle_trans (kle_of_lt hlt') this
        · intro c h1 h2 h3 h4
          rw [List.length_set] at h2
          have up1 := (hd1.up h4).ge
          rw [getD_set _ _ _ _ hq, getD_set _ _ _ _ hq, if_neg (show ¬ (q1 - 1) / 2 = q by lia)]
          have e1 : kle (ks.getD ((q1 - 1) / 2) K0) (ks.getD q1 K0) := hE q1 (by lia) (by lia) up1 (by lia) (by lia)
          by_cases a : c = q
          · rw [if_pos a]; exact e1
          · rw [if_neg a]
            have := hE c h1 h2 (by lia) a (by lia)
            rw [h3] at this
            exact kle_trans e1 this
      · rw [if_neg hlt]
        exact stop fun _ => kle_of_not hlt
    · rw [dif_neg h]
      exact stop fun h' => absurd h' h

noncomputable def DownOk (pos : Nat) (x : Key) (ks : List Key) (q : Nat) (r : List Key × Nat) : Prop :=
  Desc pos r.2 ∧ r.1.length = ks.length ∧ r.2 < ks.length ∧ ks.length ≤ 2 * r.2 + 1 ∧ (∀ c, 1 ≤ c → c < ks.length → pos ≤ (c - 1) / 2 → c ≠ r.2 → (c - 1) / 2 ≠ r.2 → kle (r.1.getD ((c - 1) / 2) K0) (r.1.getD c K0)) ∧
    ∀ k, k ∈ r.1.set r.2 x ↔ k ∈ ks.set q x
/-- the way down: the hole q, x taken out of it -/
theorem supGo_heap (x : Key) (pos : Nat) : ∀ (n : Nat) (ks : List Key) (q : Nat), ks.length - q = n → Desc pos q → q < ks.length →
    (∀ c, 1 ≤ c → c < ks.length → pos ≤ (c - 1) / 2 → c ≠ q → (c - 1) / 2 ≠ q → kle (ks.getD ((c - 1) / 2) K0) (ks.getD c K0)) →
    (∀ c, 1 ≤ c → c < ks.length → (c - 1) / 2 = q → pos < q → kle (ks.getD ((q - 1) / 2) K0) (ks.getD c K0)) →
    DownOk pos x ks q (supGo ks q) := by
  intro n
  induction n using Nat.strongRecOn with
  | ind n ih =>
    intro ks q hn hd hq hE hG
    rw [supGo_eq]
    by_cases h : 2 * q + 1 < ks.length
    · rw [dif_pos h]
      -- the child that goes up, in one
      have go : ∀ q1, (q1 = 2 * q + 1 ∨ q1 = 2 * q + 2) → q1 < ks.length → Desc pos q1 → (∀ c, c < ks.length → 1 ≤ c → (c - 1) / 2 = q → kle (ks.getD q1 K0) (ks.getD c K0)) →
          DownOk pos x ks q (supGo (ks.set q (ks.getD q1 K0)) q1) := by
        intro q1 hq1 hl hd1 hmin
        have hp1 : (q1 - 1) / 2 = q := by lia
        have gq := hd.ge
        have r := ih (ks.length - q1) (by lia) (ks.set q (ks.getD q1 K0)) q1 (by rw [List.length_set]) hd1 (by rw [List.length_set]; exact hl) ?_ ?_
        · unfold DownOk at r ⊢
          rw [List.length_set] at r
          exact ⟨r.1, r.2.1, r.2.2.1, r.2.2.2.1, r.2.2.2.2.1, fun k => (r.2.2.2.2.2 k).trans (mem_swap hq hl (by lia) k)⟩
        · intro c h1 h2 h3 h4 h5
          rw [List.length_set] at h2
          rw [getD_set _ _ _ _ hq, getD_set _ _ _ _ hq]
          by_cases a : c = q
          · subst a
            rw [if_pos rfl, if_neg (by lia)]
            exact hG q1 (by lia) hl hp1 (by lia)
          · rw [if_neg a]
            by_cases b : (c - 1) / 2 = q
            · rw [if_pos b]; exact hmin c h2 h1 b
            · rw [if_neg b]; exact hE c h1 h2 h3 a b
        · intro c h1 h2 h3 h4
          rw [List.length_set] at h2
          rw [getD_set _ _ _ _ hq, getD_set _ _ _ _ hq, if_pos hp1, if_neg (by lia)]
          have := hE c h1 h2 (by lia) (by lia) (by lia)
          rw [h3] at this
          exact this
      split
      · rename_i hc
        refine go (2 * q + 2) (.inr rfl) hc.1 hd.right fun c h1 h2 h3 => ?_
        have : c = 2 * q + 1 ∨ c = 2 * q + 2 := by lia
        rcases this with rfl | rfl
        · exact hc.2
        · exact kle_refl _
      · rename_i hc
        refine go (2 * q + 1) (.inl rfl) h hd.left fun c h1 h2 h3 => ?_
        have : c = 2 * q + 1 ∨ c = 2 * q + 2 := by lia
        rcases this with rfl | rfl
        · exact kle_refl _
        · have : ¬ keyLt (ks.getD (2 * q + 1) (0, 0, 0)) (ks.getD (2 * q + 2) (0, 0, 0)) = false := fun e => hc ⟨h1, e⟩
          exact kle_of_lt (by simpa using this)
    · rw [dif_neg h]
      exact ⟨hd, rfl, hq, by lia, hE, fun _ => Iff.rfl⟩
theorem set_self (ks : List Key) (i : Nat) (hi : i < ks.length) : ks.set i (ks.getD i K0) = ks := by
  rw [List.getD_eq_getElem?_getD, List.getElem?_eq_getElem hi]
  exact List.set_getElem_self hi
theorem sup_heap {ks : List Key} {pos : Nat} (hp : pos < ks.length) (h : HeapFrom ks (pos + 1)) : HeapFrom (sup ks pos) pos ∧ ∀ k, k ∈ sup ks pos ↔ k ∈ ks := by
  have r := supGo_heap (ks.getD pos K0) pos _ ks pos rfl .self hp (fun c h1 h2 h3 h4 h5 => h c h1 h2 (by lia)) (fun c _ _ _ h => absurd h (Nat.lt_irrefl _))
  unfold sup
  unfold DownOk at r
  dsimp only
  generalize supGo ks pos = r0 at r ⊢
  obtain ⟨l, q⟩ := r0
  dsimp only at r ⊢
  obtain ⟨hd, hl, hq, hleaf, hE, hm⟩ := r
  have hq' : q < l.length := by lia
  have t := sdown_heap (ks.getD pos K0) pos q (l.set q (ks.getD pos K0)) hd (by rw [List.length_set]; exact hq') ?_ ?_ ?_
  · refine ⟨t.1, fun k => (t.2 k).trans ?_⟩
    rw [List.set_set, hm k, set_self ks pos hp]
  · intro c h1 h2 h3 h4 h5
    rw [List.length_set] at h2
    rw [getD_set _ _ _ _ hq', getD_set _ _ _ _ hq', if_neg h4, if_neg h5]
    exact hE c h1 (by lia) h3 h4 h5
  · intro c h1 h2 h3
    rw [List.length_set] at h2
    lia
  · intro c h1 h2 h3
    rw [List.length_set] at h2
    lia
theorem hfold_heap : ∀ (n : Nat) (ks : List Key), n ≤ ks.length → HeapFrom ks n → HeapFrom (hfold ks n) 0 ∧ ∀ k, k ∈ hfold ks n ↔ k ∈ ks
  | 0, ks, _, h => ⟨h, fun _ => Iff.rfl⟩
  | n + 1, ks, hn, h => by
    have s := sup_heap (ks := ks) (pos := n) (by lia) h
    have l := (sup_facts (fun _ => True) ks n (by lia) (fun _ _ => trivial)).1
    have r := hfold_heap n (sup ks n) (by lia) s.1
    exact ⟨r.1, fun k => (r.2 k).trans (s.2 k)⟩
theorem root_le {ks : List Key} (h : HeapFrom ks 0) : ∀ i, i < ks.length → kle (ks.getD 0 K0) (ks.getD i K0) := by
  intro i
  induction i using Nat.strongRecOn with
  | ind i ih =>
    intro hi
    by_cases h0 : i = 0
    · subst h0; exact kle_refl _
    · exact kle_trans (ih ((i - 1) / 2) (by lia) (by lia)) (h i (by lia) hi (Nat.zero_le _))
theorem pop_sorted : ∀ (n : Nat) (ks : List Key), ks.length = n → HeapFrom ks 0 → (popAll n ks).Pairwise kle ∧ ∀ k, k ∈ popAll n ks ↔ k ∈ ks
  | 0, ks, hn, _ => by
    have : ks = [] := List.length_eq_zero_iff.mp hn
    subst this
    exact ⟨.nil, fun _ => Iff.rfl⟩
  | n + 1, ks, hn, h => by
    obtain ⟨l, a, rfl⟩ : ∃ l a, ks = l ++ [a] := ⟨ks.dropLast, ks.getLast (fun e => by rw [e] at hn; cases hn), (List.dropLast_concat_getLast _).symm⟩
    rw [List.length_append, List.length_cons, List.length_nil] at hn
    have hn' : l.length = n := by lia
    have e1 : (l ++ [a]).dropLast = l := by simp
    have e2 : (l ++ [a]).getLastD (0, 0, 0) = a := by simp
    rw [popAll, e1, e2]
    cases l with
    | nil =>
      simp only [List.length_nil] at hn'
      subst hn'
      simp [popAll]
    | cons b t =>
      rw [if_neg (by simp)]
      have e3 : (b :: t).getD 0 a = b := rfl
      have e4 : (b :: t).set 0 a = a :: t := rfl
      rw [e3, e4]
      have hlen : (a :: t).length = n := hn'
      have hf : HeapFrom (a :: t) (0 + 1) := by
        intro c h1 h2 h3
        have hh := h c h1 (by simp only [List.length_append, List.length_cons] at h2 ⊢; lia) (by lia)
        have g : ∀ i, 1 ≤ i → i < (a :: t).length → (a :: t).getD i K0 = (b :: t ++ [a]).getD i K0 := by
          intro i hi1 hi2
          rw [List.length_cons] at hi2
          obtain ⟨j, rfl⟩ : ∃ j, i = j + 1 := ⟨i - 1, by lia⟩
          show t.getD j K0 = (t ++ [a]).getD j K0
          rw [List.getD_eq_getElem?_getD, List.getD_eq_getElem?_getD, List.getElem?_append_left (by lia)]
        rw [g _ (by lia) (by lia), g _ h1 h2]
        exact hh
      have s := sup_heap (ks := a :: t) (pos := 0) (by simp) hf
      have sl := (sup_facts (fun _ => True) (a :: t) 0 (by simp) (fun _ _ => trivial)).1
      have r := pop_sorted n (sup (a :: t) 0) (by rw [sl, hlen]) s.1
      have root := root_le h
      have rb : ∀ k ∈ (b :: t ++ [a]), kle b k := fun k hk => by
        obtain ⟨i, hi, rfl⟩ := mem_getD.mp hk
        exact root i hi
      have mem : ∀ k, k ∈ popAll n (sup (a :: t) 0) ↔ k ∈ a :: t := fun k => (r.2 k).trans (s.2 k)
      refine ⟨.cons (fun k hk => rb k ?_) r.1, fun k => ?_⟩
      · have := (mem k).mp hk
        simp only [List.mem_cons, List.mem_append, List.cons_append] at this ⊢
        rcases this with h | h <;> simp [h]
      · rw [List.mem_cons, mem k]
        simp only [List.mem_cons, List.mem_append, List.cons_append, List.not_mem_nil, or_false]
        constructor
        · rintro (h | h | h) <;> simp [h]
        · rintro (h | h | h) <;> simp [h]
/-- all keys in order -/
noncomputable def order (ks : List Key) : List Key := popAll ks.length (hfold ks 6)
theorem order_facts {ks : List Key} (h : ks.length = 12) : (order ks).Pairwise kle ∧ ∀ k, k ∈ order ks ↔ k ∈ ks := by
  have a := hfold_heap 6 ks (by lia) (fun c h1 h2 h3 => by lia)
  have l := (hfold_facts (fun _ => True) 6 ks (by lia) (fun _ _ => trivial)).1
  have p := pop_sorted ks.length (hfold ks 6) l a.1
  exact ⟨p.1, fun k => (p.2 k).trans (a.2 k)⟩
end
section
noncomputable abbrev shr (a b : Key) : Prop := a.2.1 = b.2.1 ∨ a.2.2 = b.2.2
/-- pairs of which no two share an end, and each key is no better than one that shares an end with it -/
structure Stable (S : List Key) (M : List Key) : Prop where
  sub : ∀ m ∈ M, m ∈ S
  one : ∀ m ∈ M, ∀ m' ∈ M, shr m m' → m = m'
  dom : ∀ k ∈ S, ∃ m ∈ M, shr m k ∧ kle m k
theorem filter_lt {α : Type} {p q : α → Bool} : ∀ {l : List α} {a : α}, a ∈ l → (∀ x, p x = true → q x = true) → p a = false → q a = true → (l.filter p).length < (l.filter q).length
  | b :: l, a, hm, hs, hp, hq => by
    have le : ∀ l : List α, (l.filter p).length ≤ (l.filter q).length := by
      intro l
      induction l with
      | nil => exact Nat.le_refl _
      | cons c l ih =>
        rw [List.filter_cons, List.filter_cons]
        by_cases h : p c = true
        · rw [if_pos h, if_pos (hs c h)]; simpa using ih
        · rw [if_neg h]; split
          · rw [List.length_cons]; lia
          · exact ih
    rw [List.filter_cons, List.filter_cons]
    rcases List.mem_cons.mp hm with rfl | hm
    · rw [hp, hq, if_neg (by simp), if_pos rfl, List.length_cons]
      have := le l
      lia
    · have ih := filter_lt hm hs hp hq
      by_cases h : p b = true
      · rw [if_pos h, if_pos (hs b h)]; simpa using ih
      · rw [if_neg h]; split
        · rw [List.length_cons]; lia
        · exact ih
theorem stable_same {S M M' : List Key} (h : Stable S M) (h' : Stable S M') : ∀ k, k ∈ S → (k ∈ M ↔ k ∈ M') := by
  have main : ∀ n k, k ∈ S → (S.filter fun x => keyLt x k).length = n → (k ∈ M ↔ k ∈ M') := by
    intro n
    induction n using Nat.strongRecOn with
    | ind n ih =>
      intro k hk hn
      have half : ∀ {M M' : List Key}, Stable S M → Stable S M' → (∀ x ∈ S, keyLt x k = true → (x ∈ M ↔ x ∈ M')) → k ∈ M → k ∈ M' := by
        intro M M' h h' ihm hm
        obtain ⟨m', hm', hs, hle⟩ := h'.dom k hk
        by_cases e : m' = k
        · exact e ▸ hm'
        · have hlt := klt_of_le_ne hle e
          have : m' ∈ M := (ihm m' (h'.sub _ hm') hlt).mpr hm'
          exact absurd (h.one m' this k hm hs) e
      have below : ∀ x ∈ S, keyLt x k = true → (x ∈ M ↔ x ∈ M') := by
        intro x hx hlt
        refine ih _ ?_ x hx rfl
        rw [← hn]
        refine filter_lt hx (fun y hy => ?_) (klt_irr x) hlt
        exact klt_le hy (kle_of_lt hlt)
      exact ⟨half h h' below, half h' h fun x hx hlt => (below x hx hlt).symm⟩
  exact fun k hk => main _ k hk rfl
theorem sorted_same : ∀ {l l' : List Key}, l.Pairwise (fun a b => keyLt a b = true) → l'.Pairwise (fun a b => keyLt a b = true) → (∀ k, k ∈ l ↔ k ∈ l') → l = l'
  | [], [], _, _, _ => rfl
  | [], b :: l', _, _, h => absurd ((h b).mpr (.head _)) (by simp)
  | a :: l, [], _, _, h => absurd ((h a).mp (.head _)) (by simp)
  | a :: l, b :: l', p, p', h => by
    rw [List.pairwise_cons] at p p'
    have e : a = b := by
      rcases List.mem_cons.mp ((h a).mp (.head _)) with e | h1
      · exact e
      · rcases List.mem_cons.mp ((h b).mpr (.head _)) with e | h2
        · exact e.symm
        · exact absurd (klt_le (p.1 b h2) (kle_of_lt (p'.1 a h1))) (by rw [klt_irr]; simp)
    subst e
    rw [sorted_same p.2 p'.2 fun k => ?_]
    constructor
    · intro hk
      rcases List.mem_cons.mp ((h k).mp (.tail _ hk)) with e | h1
      · subst e; exact absurd (p.1 k hk) (by rw [klt_irr]; simp)
      · exact h1
    · intro hk
      rcases List.mem_cons.mp ((h k).mpr (.tail _ hk)) with e | h1
      · subst e; exact absurd (p'.1 k hk) (by rw [klt_irr]; simp)
      · exact h1
theorem clash_iff {p : List Key} {k : Key} : clash p k = true ↔ ∃ o ∈ p, shr o k := by
  unfold clash
  rw [List.any_eq_true]
  simp [shr]
/-- the nearest first -/
theorem greedy : ∀ (l p : List Key) (S : List Key), l.Pairwise kle → (∀ m ∈ p, ∀ k ∈ l, kle m k) → p.Pairwise (fun a b => keyLt a b = true) → (∀ m ∈ p, ∀ m' ∈ p, shr m m' → m = m') → (∀ k ∈ S, k ∈ l ∨ ∃ m ∈ p, shr m k ∧ kle m k) → (∀ m ∈ p, m ∈ S) → (∀ m ∈ l, m ∈ S) →
    Stable S (l.foldl gstep p) ∧ (l.foldl gstep p).Pairwise (fun a b => keyLt a b = true)
  | [], p, S, _, _, hp, h1, hd, hs, _ => ⟨⟨hs, h1, fun k hk => (hd k hk).resolve_left (by simp)⟩, hp⟩
  | k :: l, p, S, hl, hb, hp, h1, hd, hs, hsl => by
    rw [List.pairwise_cons] at hl
    rw [List.foldl_cons]
    unfold gstep
    by_cases c : clash p k = true
    · rw [if_pos c]
      obtain ⟨o, ho, hso⟩ := clash_iff.mp c
      refine greedy l p S hl.2 (fun m hm x hx => hb m hm x (.tail _ hx)) hp h1 (fun x hx => ?_) hs fun x hx => hsl x (.tail _ hx)
      rcases hd x hx with h | h
      · rcases List.mem_cons.mp h with rfl | h
        · exact .inr ⟨o, ho, hso, hb o ho _ (.head _)⟩
        · exact .inl h
      · exact .inr h
    · rw [if_neg c]
      have nc : ∀ o ∈ p, ¬ shr o k := fun o ho hs => c (clash_iff.mpr ⟨o, ho, hs⟩)
      refine greedy l (p ++ [k]) S hl.2 (fun m hm x hx => ?_) ?_ (fun m hm m' hm' hs => ?_) (fun x hx => ?_) (fun m hm => ?_) fun x hx => hsl x (.tail _ hx)
      · rcases List.mem_append.mp hm with hm | hm
        · exact hb m hm x (.tail _ hx)
        · rw [List.mem_singleton] at hm; subst hm; exact hl.1 x hx
      · rw [List.pairwise_append]
        refine ⟨hp, List.pairwise_singleton .., fun a ha b hb' => ?_⟩
        rw [List.mem_singleton] at hb'; subst hb'
        refine klt_of_le_ne (hb a ha _ (.head _)) fun e => ?_
        subst e
        exact nc a ha (.inl rfl)
      · rcases List.mem_append.mp hm with q | q
        · rcases List.mem_append.mp hm' with q' | q'
          · exact h1 m q m' q' hs
          · rw [List.mem_singleton] at q'; subst q'; exact absurd hs (nc m q)
        · rw [List.mem_singleton] at q
          rcases List.mem_append.mp hm' with q' | q'
          · rw [q] at hs; exact absurd (hs.imp Eq.symm Eq.symm) (nc m' q')
          · rw [List.mem_singleton] at q'; exact q.trans q'.symm
      · rcases hd x hx with h | ⟨m, hm, h⟩
        · rcases List.mem_cons.mp h with rfl | h
          · exact .inr ⟨x, by simp, .inl rfl, kle_refl _⟩
          · exact .inl h
        · exact .inr ⟨m, by simp [hm], h⟩
      · rcases List.mem_append.mp hm with hm | hm
        · exact hs m hm
        · rw [List.mem_singleton] at hm; subst hm; exact hsl m (.head _)
theorem nearest_stable {ks : List Key} (h : ks.length = 12) : Stable ks (nearest ks) ∧ (nearest ks).Pairwise (fun a b => keyLt a b = true) := by
  have o := order_facts h
  have := greedy (order ks) [] ks o.1 (by simp) .nil (by simp) (fun k hk => .inl ((o.2 k).mpr hk)) (by simp) fun k hk => (o.2 k).mp hk
  exact this
/-- a stable set in order is the nearest first -/
theorem stable_nearest {ks M : List Key} (h : ks.length = 12) (hs : Stable ks M) (ho : M.Pairwise (fun a b => keyLt a b = true)) : M = nearest ks := by
  have n := nearest_stable h
  refine sorted_same ho n.2 fun k => ?_
  constructor
  · intro hk; exact (stable_same hs n.1 k (hs.sub k hk)).mp hk
  · intro hk; exact (stable_same hs n.1 k (n.1.sub k hk)).mpr hk
end
section
theorem sort3_len' (a b c : Key) : (sort3 a b c).length = 3 := by unfold sort3; rw [List.length_map]; exact perm3_len _ _ _
theorem sort3_facts {a b c : Key} (h1 : a ≠ b) (h2 : a ≠ c) (h3 : b ≠ c) : (sort3 a b c).Pairwise (fun a b => keyLt a b = true) ∧ ∀ k, k ∈ sort3 a b c ↔ (k = a ∨ k = b ∨ k = c) := by
  have n1 := keyLt_not h1
  have n2 := keyLt_not h2
  have n3 := keyLt_not h3
  obtain ⟨p1, p2, p3, p4, p5, p6⟩ := perm3_is
  unfold sort3
  cases x : keyLt a b <;> cases y : keyLt a c <;> cases z : keyLt b c <;> rw [x] at n1 <;> rw [y] at n2 <;> rw [z] at n3
  · rw [p6]; refine ⟨?_, fun k => ?_⟩
    · simp [n1, n2, n3]
    · simp only [List.map_cons, List.map_nil, List.mem_cons, List.not_mem_nil, or_false]
      show k = c ∨ k = b ∨ k = a ↔ _
      constructor <;> (rintro (h | h | h) <;> simp [h])
  · rw [p5]; refine ⟨?_, fun k => ?_⟩
    · simp [n1, n2, z]
    · simp only [List.map_cons, List.map_nil, List.mem_cons, List.not_mem_nil, or_false]
      show k = b ∨ k = c ∨ k = a ↔ _
      constructor <;> (rintro (h | h | h) <;> simp [h])
  · exact absurd (klt_le y (kle_of_lt n3)) (by rw [x]; simp)
  · rw [p4]; refine ⟨?_, fun k => ?_⟩
    · simp [n1, y, z]
    · simp only [List.map_cons, List.map_nil, List.mem_cons, List.not_mem_nil, or_false]
      show k = b ∨ k = a ∨ k = c ↔ _
      constructor <;> (rintro (h | h | h) <;> simp [h])
  · rw [p3]; refine ⟨?_, fun k => ?_⟩
    · simp [n2, n3, x]
    · simp only [List.map_cons, List.map_nil, List.mem_cons, List.not_mem_nil, or_false]
      show k = c ∨ k = a ∨ k = b ↔ _
      constructor <;> (rintro (h | h | h) <;> simp [h])
  · exact absurd (klt_le x (kle_of_lt z)) (by rw [y]; simp)
  · rw [p2]; refine ⟨?_, fun k => ?_⟩
    · simp [n3, x, y]
    · simp only [List.map_cons, List.map_nil, List.mem_cons, List.not_mem_nil, or_false]
      show k = a ∨ k = c ∨ k = b ↔ _
      constructor <;> (rintro (h | h | h) <;> simp [h])
  · rw [p1]; refine ⟨?_, fun k => ?_⟩
    · simp [x, y, z]
    · simp only [List.map_cons, List.map_nil, List.mem_cons, List.not_mem_nil, or_false]
      show k = a ∨ k = b ∨ k = c ↔ _
      constructor <;> (rintro (h | h | h) <;> simp [h])
theorem keysLt_irr : ∀ l : List Key, keysLt l l = false
  | [] => rfl
  | a :: l => by unfold keysLt; rw [if_pos rfl]; exact keysLt_irr l
theorem keysLt_asym : ∀ {l r : List Key}, keysLt l r = true → keysLt r l = false
  | [], [], _ => rfl
  | [], _ :: _, _ => rfl
  | _ :: _, [], h => by simp [keysLt] at h
  | a :: l, b :: r, h => by
    unfold keysLt at h ⊢
    by_cases e : a = b
    · rw [if_pos e] at h; rw [if_pos e.symm]; exact keysLt_asym h
    · rw [if_neg e] at h; rw [if_neg (Ne.symm e)]; exact kle_of_lt h
theorem lex_least {S : List Key} : ∀ (G R pre : List Key), Stable S (pre ++ G) → (pre ++ G).Pairwise (fun a b => keyLt a b = true) → (pre ++ R).Pairwise (fun a b => keyLt a b = true) → (∀ m ∈ R, m ∈ S) → (∀ m ∈ pre ++ R, ∀ m' ∈ pre ++ R, shr m m' → m = m') → G.length = R.length → G = R ∨ keysLt G R = true
  | [], [], _, _, _, _, _, _, _ => .inl rfl
  | [], _ :: _, _, _, _, _, _, _, h => by simp at h
  | _ :: _, [], _, _, _, _, _, _, h => by simp at h
  | g :: G, r :: R, pre, hs, hG, hR, sub, one, hl => by
    by_cases e : g = r
    · subst e
      have a1 : pre ++ g :: G = (pre ++ [g]) ++ G := by simp
      have a2 : pre ++ g :: R = (pre ++ [g]) ++ R := by simp
      rw [a1] at hs hG
      rw [a2] at hR one
      rcases lex_least G R (pre ++ [g]) hs hG hR (fun m hm => sub m (.tail _ hm)) one (by simpa using hl) with h | h
      · exact .inl (by rw [h])
      · refine .inr ?_
        unfold keysLt
        rw [if_pos rfl]; exact h
    · refine .inr ?_
      unfold keysLt
      rw [if_neg e]
      cases hc : keyLt g r with
      | true => rfl
      | false =>
        exfalso
        have hlt : keyLt r g = true := klt_of_le_ne hc (Ne.symm e)
        obtain ⟨m, hm, hsh, hle⟩ := hs.dom r (sub r (.head _))
        have hmg := kle_lt hle hlt
        rw [List.pairwise_append] at hG hR
        rcases List.mem_append.mp hm with hm | hm
        · have := one m (List.mem_append_left _ hm) r (List.mem_append_right _ (.head _)) hsh
          have lt := hR.2.2 m hm r (.head _)
          rw [this, klt_irr] at lt
          cases lt
        · rcases List.mem_cons.mp hm with h | h
          · rw [h, klt_irr] at hmg; cases hmg
          · have := (List.pairwise_cons.mp hG.2.1).1 m h
            have := klt_le hmg (kle_of_lt this)
            rw [klt_irr] at this
            cases this
theorem fold_least {G : List Key} : ∀ (l : List (List Key)) (b : List Key), (∀ r ∈ b :: l, r = G ∨ keysLt G r = true) → G ∈ b :: l → l.foldl minK b = G
  | [], b, _, hm => (List.mem_singleton.mp hm).symm
  | x :: l, b, h, hm => by
    rw [List.foldl_cons]
    have hb := h b (.head _)
    have hx := h x (.tail _ (.head _))
    have hm3 : b = G ∨ x = G ∨ G ∈ l := by
      rcases List.mem_cons.mp hm with h | h
      · exact .inl h.symm
      · rcases List.mem_cons.mp h with h | h
        · exact .inr (.inl h.symm)
        · exact .inr (.inr h)
    refine fold_least l _ ?_ ?_
    · intro r hr
      rcases List.mem_cons.mp hr with rfl | hr
      · unfold minK; split
        · exact hx
        · exact hb
      · exact h r (.tail _ (.tail _ hr))
    · by_cases eb : b = G
      · have : minK b x = G := by
          unfold minK
          rw [if_neg, eb]
          rw [eb]
          rcases hx with rfl | hx
          · rw [keysLt_irr]; simp
          · rw [keysLt_asym hx]; simp
        rw [this]; exact .head _
      · rcases hm3 with h3 | h3 | h3
        · exact absurd h3 eb
        · have hlt := hb.resolve_left eb
          have : minK b x = G := by
            unfold minK
            rw [h3, if_pos hlt]
          rw [this]; exact .head _
        · exact .tail _ h3
theorem lrows3 (tbl : Nat → Nat → Key) (hI : ∀ i, i < 4 → ∀ j, j < 3 → (tbl i j).2.1 = (i : Int)) (row : List Key) :
    row ∈ lrows tbl 3 ↔ ∃ i0 i1 i2, i0 < 4 ∧ i1 < 4 ∧ i2 < 4 ∧ i0 ≠ i1 ∧ i0 ≠ i2 ∧ i1 ≠ i2 ∧ row = [tbl i0 0, tbl i1 1, tbl i2 2] := by
  simp only [lrows, List.mem_flatMap, ext, List.mem_map, List.mem_filter, List.mem_range, List.mem_singleton]
  constructor
  · rintro ⟨r2, ⟨r1, ⟨r0, rfl, i0, ⟨h0, f0⟩, rfl⟩, i1, ⟨h1, f1⟩, rfl⟩, i2, ⟨h2, f2⟩, rfl⟩
    refine ⟨i0, i1, i2, h0, h1, h2, ?_, ?_, ?_, rfl⟩
    · rintro rfl
      simp [free, hI i0 h0 0 (by lia)] at f1
    · rintro rfl
      simp [free, hI i0 h0 0 (by lia)] at f2
    · rintro rfl
      simp [free, hI i1 h1 1 (by lia)] at f2
  · rintro ⟨i0, i1, i2, h0, h1, h2, n1, n2, n3, rfl⟩
    refine ⟨[tbl i0 0, tbl i1 1], ⟨[tbl i0 0], ⟨[], rfl, i0, ⟨h0, rfl⟩, rfl⟩, i1, ⟨h1, ?_⟩, rfl⟩, i2, ⟨h2, ?_⟩, rfl⟩
    · simp [free, hI i0 h0 0 (by lia)]; lia
    · simp [free, hI i0 h0 0 (by lia), hI i1 h1 1 (by lia)]; lia
/-- three of three -/
theorem pig3 {x y z j : Int} (hx : 0 ≤ x ∧ x < 3) (hy : 0 ≤ y ∧ y < 3) (hz : 0 ≤ z ∧ z < 3) (hj : 0 ≤ j ∧ j < 3) (xy : x ≠ y) (xz : x ≠ z) (yz : y ≠ z) : x = j ∨ y = j ∨ z = j := by
  have v : ∀ {x : Int}, 0 ≤ x ∧ x < 3 → x = 0 ∨ x = 1 ∨ x = 2 := fun h => by lia
  rcases v hx with rfl | rfl | rfl <;> rcases v hy with rfl | rfl | rfl <;> first | exact absurd rfl xy | (rcases v hz with rfl | rfl | rfl <;> first | exact absurd rfl xz | exact absurd rfl yz | (rcases v hj with rfl | rfl | rfl <;> first | exact .inl rfl | exact .inr (.inl rfl) | exact .inr (.inr rfl)))
theorem nat_bd {n : Nat} {x : Int} (h : x = (n : Int)) (hn : n < 3) : 0 ≤ x ∧ x < 3 := by rw [h]; exact ⟨Int.natCast_nonneg n, Int.ofNat_lt.mpr hn⟩
theorem least_stable {tbl : Nat → Nat → Key} {S G : List Key} (hI : ∀ i, i < 4 → ∀ j, j < 3 → (tbl i j).2.1 = (i : Int)) (hJ : ∀ i, i < 4 → ∀ j, j < 3 → (tbl i j).2.2 = (j : Int)) (hS : ∀ k, k ∈ S ↔ ∃ i, i < 4 ∧ ∃ j, j < 3 ∧ k = tbl i j)
    (hs : Stable S G) (ho : G.Pairwise (fun a b => keyLt a b = true)) (h3 : G.length = 3) : leastOf tbl = G ∧ lrows tbl 3 ≠ [] := by
  have at_ : ∀ j : Nat, j < 3 → ∃ g ∈ G, g.2.2 = (j : Int) := by
    obtain ⟨a, b, c, rfl⟩ := len3 h3
    have fa := (hS a).mp (hs.sub a (by simp))
    have fb := (hS b).mp (hs.sub b (by simp))
    have fc := (hS c).mp (hs.sub c (by simp))
    obtain ⟨ia, qa, ja, pa, ea⟩ := fa
    obtain ⟨ib, qb, jb, pb, eb⟩ := fb
    obtain ⟨ic, qc, jc, pc, ec⟩ := fc
    have ka := hJ ia qa ja pa
    have kb := hJ ib qb jb pb
    have kc := hJ ic qc jc pc
    rw [← ea] at ka
    rw [← eb] at kb
    rw [← ec] at kc
    rw [List.pairwise_cons, List.pairwise_cons] at ho
    have nab : a ≠ b := fun e => by have := ho.1 b (by simp); rw [e, klt_irr] at this; cases this
    have nac : a ≠ c := fun e => by have := ho.1 c (by simp); rw [e, klt_irr] at this; cases this
    have nbc : b ≠ c := fun e => by have := ho.2.1 c (by simp); rw [e, klt_irr] at this; cases this
    have mab : a.2.2 ≠ b.2.2 := fun e => nab (hs.one a (by simp) b (by simp) (.inr e))
    have mac : a.2.2 ≠ c.2.2 := fun e => nac (hs.one a (by simp) c (by simp) (.inr e))
    have mbc : b.2.2 ≠ c.2.2 := fun e => nbc (hs.one b (by simp) c (by simp) (.inr e))
    intro j hj
    have := pig3 (nat_bd ka pa) (nat_bd kb pb) (nat_bd kc pc) (nat_bd (n := j) rfl hj) mab mac mbc
    rcases this with h | h | h
    · exact ⟨a, by simp, h⟩
    · exact ⟨b, by simp, h⟩
    · exact ⟨c, by simp, h⟩
  obtain ⟨r0, m0, e0⟩ := at_ 0 (by lia)
  obtain ⟨r1, m1, e1⟩ := at_ 1 (by lia)
  obtain ⟨r2, m2, e2⟩ := at_ 2 (by lia)
  have get : ∀ r ∈ G, ∀ j : Nat, r.2.2 = (j : Int) → ∃ i, i < 4 ∧ r = tbl i j ∧ r.2.1 = (i : Int) := by
    intro r hr j hj
    obtain ⟨i, hi, j', hj', e⟩ := (hS r).mp (hs.sub r hr)
    have := hJ i hi j' hj'
    rw [← e] at this
    have : j = j' := by lia
    subst this
    exact ⟨i, hi, e, by rw [e]; exact hI i hi j hj'⟩
  obtain ⟨i0, h0, t0, q0⟩ := get r0 m0 0 e0
  obtain ⟨i1, h1, t1, q1⟩ := get r1 m1 1 e1
  obtain ⟨i2, h2, t2, q2⟩ := get r2 m2 2 e2
  have n01 : r0 ≠ r1 := fun e => by rw [e, e1] at e0; cases e0
  have n02 : r0 ≠ r2 := fun e => by rw [e, e2] at e0; cases e0
  have n12 : r1 ≠ r2 := fun e => by rw [e, e2] at e1; cases e1
  have d01 : i0 ≠ i1 := fun e => n01 (hs.one r0 m0 r1 m1 (.inl (by rw [q0, q1, e])))
  have d02 : i0 ≠ i2 := fun e => n02 (hs.one r0 m0 r2 m2 (.inl (by rw [q0, q2, e])))
  have d12 : i1 ≠ i2 := fun e => n12 (hs.one r1 m1 r2 m2 (.inl (by rw [q1, q2, e])))
  have hrow : [r0, r1, r2] ∈ lrows tbl 3 := (lrows3 tbl hI _).mpr ⟨i0, i1, i2, h0, h1, h2, d01, d02, d12, by rw [← t0, ← t1, ← t2]⟩
  have sf := sort3_facts n01 n02 n12
  have hsrt : srt [r0, r1, r2] = G := sorted_same sf.1 ho fun k => by
    refine Iff.trans (sf.2 k) ?_
    constructor
    · rintro (h | h | h) <;> rw [h] <;> assumption
    · intro hk
      obtain ⟨i, hi, j, hj, e⟩ := (hS k).mp (hs.sub k hk)
      have hj2 := hJ i hi j hj
      rw [← e] at hj2
      have : j = 0 ∨ j = 1 ∨ j = 2 := by lia
      rcases this with rfl | rfl | rfl
      · exact .inl (hs.one k hk r0 m0 (.inr (hj2.trans e0.symm)))
      · exact .inr (.inl (hs.one k hk r1 m1 (.inr (hj2.trans e1.symm))))
      · exact .inr (.inr (hs.one k hk r2 m2 (.inr (hj2.trans e2.symm))))
  have hG : G ∈ (lrows tbl 3).map srt := List.mem_map.mpr ⟨_, hrow, hsrt⟩
  have all : ∀ r ∈ (lrows tbl 3).map srt, r = G ∨ keysLt G r = true := by
    intro r hr
    obtain ⟨row, hrow, rfl⟩ := List.mem_map.mp hr
    obtain ⟨a0, a1, a2, b0, b1, b2, x1, x2, x3, rfl⟩ := (lrows3 tbl hI row).mp hrow
    have j0 := hJ a0 b0 0 (by lia)
    have j1 := hJ a1 b1 1 (by lia)
    have j2 := hJ a2 b2 2 (by lia)
    have k0 := hI a0 b0 0 (by lia)
    have k1 := hI a1 b1 1 (by lia)
    have k2 := hI a2 b2 2 (by lia)
    have u0 : tbl a0 0 ∈ S := (hS _).mpr ⟨a0, b0, 0, by lia, rfl⟩
    have u1 : tbl a1 1 ∈ S := (hS _).mpr ⟨a1, b1, 1, by lia, rfl⟩
    have u2 : tbl a2 2 ∈ S := (hS _).mpr ⟨a2, b2, 2, by lia, rfl⟩
    generalize tbl a0 0 = y0 at *
    generalize tbl a1 1 = y1 at *
    generalize tbl a2 2 = y2 at *
    have p01 : y0 ≠ y1 := fun e => by rw [e, j1] at j0; cases j0
    have p02 : y0 ≠ y2 := fun e => by rw [e, j2] at j0; cases j0
    have p12 : y1 ≠ y2 := fun e => by rw [e, j2] at j1; cases j1
    have sf := sort3_facts p01 p02 p12
    have mem : ∀ m ∈ srt [y0, y1, y2], m = y0 ∨ m = y1 ∨ m = y2 := fun m hm => (sf.2 m).mp hm
    have := lex_least (S := S) G (srt [y0, y1, y2]) [] hs ho sf.1 (fun m hm => ?_) (fun m hm m' hm' hsh => ?_) (by rw [h3]; exact (sort3_len' y0 y1 y2).symm)
    · rcases this with h | h
      · exact .inl h.symm
      · exact .inr h
    · rcases mem m hm with h | h | h <;> rw [h] <;> assumption
    · have c1 := mem m hm
      have c2 := mem m' hm'
      unfold shr at hsh
      rcases c1 with e | e | e <;> rcases c2 with e' | e' | e' <;> subst e <;> subst e' <;> first | rfl | (exfalso; lia)
  refine ⟨?_, fun e => by rw [e] at hrow; cases hrow⟩
  unfold leastOf
  cases hh : (lrows tbl 3).map srt with
  | nil => rw [hh] at hG; cases hG
  | cons r t =>
    rw [hh] at hG all
    exact fold_least t r all hG
end
section
theorem nodup_inj {α : Type} {f : α → Int} : ∀ {l : List α} {a b : α}, (l.map f).Nodup → a ∈ l → b ∈ l → f a = f b → a = b
  | x :: l, a, b, hn, ha, hb, e => by
    rw [List.map_cons, List.nodup_cons] at hn
    rcases List.mem_cons.mp ha with e1 | h1
    · rcases List.mem_cons.mp hb with e2 | h2
      · exact e1.trans e2.symm
      · exact absurd (List.mem_map.mpr ⟨b, h2, by rw [← e, e1]⟩) hn.1
    · rcases List.mem_cons.mp hb with e2 | h2
      · exact absurd (List.mem_map.mpr ⟨a, h1, by rw [e, e2]⟩) hn.1
      · exact nodup_inj hn.2 h1 h2 e
structure AInv (tbl : Nat → Nat → Key) (s : St) : Prop where
  len : s.ws.length = 4
  wsub : ∀ i, i < 4 → ∀ k ∈ s.ws.getD i [], ∃ j, j < 3 ∧ k = tbl i j
  wsort : ∀ i, i < 4 → (s.ws.getD i []).Pairwise fun a b => keyLt a b = true
  hsub : ∀ h ∈ s.held, ∃ i, i < 4 ∧ ∃ j, j < 3 ∧ h = tbl i j
  hj : (s.held.map (·.2.2)).Nodup
  hi : ∀ h ∈ s.held, ∀ h' ∈ s.held, h.2.1 = h'.2.1 → h = h'
  ahead : ∀ h ∈ s.held, ∀ i : Nat, i < 4 → h.2.1 = (i : Int) → ∀ k ∈ s.ws.getD i [], kle h k
  asked : ∀ i, i < 4 → ∀ j, j < 3 → tbl i j ∉ s.ws.getD i [] → ∃ h ∈ s.held, h.2.2 = (j : Int) ∧ kle h (tbl i j)
  q4 : ∀ i ∈ s.q, i < 4
  qn : s.q.Nodup
  qh : ∀ i ∈ s.q, ∀ h ∈ s.held, h.2.1 ≠ (i : Int)
  all : ∀ i, i < 4 → i ∈ s.q ∨ (∃ h ∈ s.held, h.2.1 = (i : Int)) ∨ s.ws.getD i [] = []
theorem getD_setL (ks : List (List Key)) (i j : Nat) (x : List Key) (hi : i < ks.length) : (ks.set i x).getD j [] = if j = i then x else ks.getD j [] := by
  rw [List.getD_eq_getElem?_getD, List.getD_eq_getElem?_getD, List.getElem?_set]
  by_cases h : j = i
  · subst h; simp [hi]
  · rw [if_neg (Ne.symm h), if_neg h]
theorem sum_set : ∀ (ws : List (List Key)) (i : Nat) (k : Key) (r : List Key), ws.getD i [] = k :: r → ((ws.set i r).map List.length).sum + 1 = (ws.map List.length).sum
  | [], i, k, r, h => by simp at h
  | w :: ws, 0, k, r, h => by
    have : w = k :: r := h
    subst this
    simp only [List.set_cons_zero, List.map_cons, List.sum_cons, List.length_cons]; lia
  | w :: ws, i + 1, k, r, h => by
    have ih := sum_set ws i k r h
    simp only [List.set_cons_succ, List.map_cons, List.sum_cons]; lia
section
variable {tbl : Nat → Nat → Key} (hI : ∀ i, i < 4 → ∀ j, j < 3 → (tbl i j).2.1 = (i : Int)) (hJ : ∀ i, i < 4 → ∀ j, j < 3 → (tbl i j).2.2 = (j : Int))
include hI hJ
theorem ask_step {ws : List (List Key)} {held : List Key} {q : List Nat} {i : Nat} (v : AInv tbl ⟨ws, held, i :: q⟩) : AInv tbl (askStep ⟨ws, held, q⟩ i) ∧ (askStep ⟨ws, held, q⟩ i).size < St.size ⟨ws, held, i :: q⟩ := by
  obtain ⟨len, wsub, wsort, hsub, hj, hi, ahead, asked, q4, qn, qh, all⟩ := v
  dsimp only at *
  have i4 : i < 4 := q4 i (.head _)
  rw [List.nodup_cons] at qn
  have qh' : ∀ i ∈ q, ∀ h ∈ held, h.2.1 ≠ (i : Int) := fun i hi => qh i (.tail _ hi)
  have qhi := qh i (.head _)
  have q4' : ∀ i ∈ q, i < 4 := fun i hi => q4 i (.tail _ hi)
  unfold askStep
  dsimp only
  cases hw : ws.getD i [] with
  | nil =>
    refine ⟨⟨len, wsub, wsort, hsub, hj, hi, ahead, asked, q4', qn.2, qh', fun i2 h2 => ?_⟩, ?_⟩
    · rcases all i2 h2 with h | h | h
      · rcases List.mem_cons.mp h with rfl | h
        · exact .inr (.inr hw)
        · exact .inl h
      · exact .inr (.inl h)
      · exact .inr (.inr h)
    · unfold St.size; dsimp only; rw [List.length_cons]; lia
  | cons k r =>
    dsimp only
    have hil : i < ws.length := by lia
    have hsum := sum_set ws i k r hw
    obtain ⟨j, j3, hk⟩ := wsub i i4 k (by rw [hw]; exact .head _)
    have kI : k.2.1 = (i : Int) := by rw [hk]; exact hI i i4 j j3
    have kJ : k.2.2 = (j : Int) := by rw [hk]; exact hJ i i4 j j3
    have hsr := wsort i i4
    rw [hw, List.pairwise_cons] at hsr
    have sg := getD_setL ws i
    -- the wishes left
    have len' : (ws.set i r).length = 4 := by rw [List.length_set]; exact len
    have subw : ∀ i', ∀ x ∈ (ws.set i r).getD i' [], x ∈ ws.getD i' [] := by
      intro i' x hx
      rw [sg _ _ hil] at hx
      by_cases e : i' = i
      · rw [if_pos e] at hx; rw [e, hw]; exact .tail _ hx
      · rw [if_neg e] at hx; exact hx
    have wsub' : ∀ i', i' < 4 → ∀ k ∈ (ws.set i r).getD i' [], ∃ j, j < 3 ∧ k = tbl i' j := fun i' h' x hx => wsub i' h' x (subw i' x hx)
    have wsort' : ∀ i', i' < 4 → ((ws.set i r).getD i' []).Pairwise fun a b => keyLt a b = true := by
      intro i' h'
      rw [sg _ _ hil]
      by_cases e : i' = i
      · rw [if_pos e]; exact hsr.2
      · rw [if_neg e]; exact wsort i' h'
    have ahead' : ∀ h ∈ held, ∀ i' : Nat, i' < 4 → h.2.1 = (i' : Int) → ∀ k ∈ (ws.set i r).getD i' [], kle h k := fun h hh i' h' e x hx => ahead h hh i' h' e x (subw i' x hx)
    have aheadk : ∀ i' : Nat, i' < 4 → k.2.1 = (i' : Int) → ∀ x ∈ (ws.set i r).getD i' [], kle k x := by
      intro i' h' e x hx
      have : i' = i := by lia
      subst this
      rw [sg _ _ hil, if_pos rfl] at hx
      exact kle_of_lt (hsr.1 x hx)
    have was : ∀ i', ∀ x, x ∉ (ws.set i r).getD i' [] → x ∉ ws.getD i' [] ∨ x = k := by
      intro i' x hx
      rw [sg _ _ hil] at hx
      by_cases e : i' = i
      · rw [if_pos e] at hx
        by_cases e2 : x = k
        · exact .inr e2
        · refine .inl ?_
          rw [e, hw]
          intro h
          rcases List.mem_cons.mp h with h | h
          · exact e2 h
          · exact hx h
      · rw [if_neg e] at hx; exact .inl hx
    have jk : ∀ i', i' < 4 → ∀ j', j' < 3 → tbl i' j' = k → k.2.2 = (j' : Int) := fun i' h' j' h2 e => by rw [← e]; exact hJ i' h' j' h2
    have wnil : ∀ i', ws.getD i' [] = [] → (ws.set i r).getD i' [] = [] := by
      intro i' h'
      rw [sg _ _ hil]
      by_cases e : i' = i
      · rw [e, hw] at h'; cases h'
      · rw [if_neg e]; exact h'
    cases hf : held.find? (fun h => h.2.2 == k.2.2) with
    | none =>
      dsimp only
      have nf : ∀ h ∈ held, h.2.2 ≠ k.2.2 := fun h hh => by
        have := List.find?_eq_none.mp hf h hh
        simpa using this
      refine ⟨⟨len', wsub', wsort', fun h hh => ?_, ?_, fun h hh h' hh' e => ?_, fun h hh => ?_, fun i' h' j' hj' hx => ?_, q4', qn.2, fun i2 h2 h hh => ?_, fun i2 h2 => ?_⟩, ?_⟩
      · rcases List.mem_append.mp hh with hh | hh
        · exact hsub h hh
        · rw [List.mem_singleton] at hh; exact ⟨i, i4, j, j3, hh.trans hk⟩
      · dsimp only
        rw [List.map_append, List.map_cons, List.map_nil, List.nodup_append]
        refine ⟨hj, by simp, fun a ha b hb e => ?_⟩
        rw [List.mem_singleton] at hb
        obtain ⟨h, hh, rfl⟩ := List.mem_map.mp ha
        exact nf h hh (e.trans hb)
      · rcases List.mem_append.mp hh with hh | hh
        · rcases List.mem_append.mp hh' with hh' | hh'
          · exact hi h hh h' hh' e
          · rw [List.mem_singleton] at hh'; rw [hh', kI] at e; exact absurd e (qhi h hh)
        · rw [List.mem_singleton] at hh
          rcases List.mem_append.mp hh' with hh' | hh'
          · rw [hh, kI] at e; exact absurd e.symm (qhi h' hh')
          · rw [List.mem_singleton] at hh'; exact hh.trans hh'.symm
      · rcases List.mem_append.mp hh with hh | hh
        · exact ahead' h hh
        · rw [List.mem_singleton] at hh; rw [hh]; exact aheadk
      · rcases was i' _ hx with hx | hx
        · obtain ⟨h, hh, a, b⟩ := asked i' h' j' hj' hx
          exact ⟨h, List.mem_append_left _ hh, a, b⟩
        · exact ⟨k, by simp, jk i' h' j' hj' hx, by rw [hx]; exact kle_refl _⟩
      · rcases List.mem_append.mp hh with hh | hh
        · exact qh' i2 h2 h hh
        · rw [List.mem_singleton] at hh; rw [hh, kI]
          intro e
          have : i = i2 := by lia
          exact qn.1 (this ▸ h2)
      · rcases all i2 h2 with h | ⟨h, hh, e⟩ | h
        · rcases List.mem_cons.mp h with rfl | h
          · exact .inr (.inl ⟨k, by simp, kI⟩)
          · exact .inl h
        · exact .inr (.inl ⟨h, List.mem_append_left _ hh, e⟩)
        · exact .inr (.inr (wnil i2 h))
      · unfold St.size; dsimp only; rw [List.length_cons]; lia
    | some h0 =>
      dsimp only
      have m0 : h0 ∈ held := List.mem_of_find?_eq_some hf
      have e0 : h0.2.2 = k.2.2 := by
        have := List.find?_some hf
        simpa using this
      by_cases hlt : keyLt k h0 = true
      · rw [if_pos hlt]
        obtain ⟨i0, i04, j0, j03, hh0⟩ := hsub h0 m0
        have h0I : h0.2.1 = (i0 : Int) := by rw [hh0]; exact hI i0 i04 j0 j03
        have tn : h0.2.1.toNat = i0 := by lia
        rw [tn]
        have ne0 : i0 ≠ i := fun e => qhi h0 m0 (by rw [h0I, e])
        have fwd : ∀ x ∈ held.map (fun x => if x.2.2 = k.2.2 then k else x), x = k ∨ (x ∈ held ∧ x.2.2 ≠ k.2.2) := by
          intro x hx
          obtain ⟨y, hy, rfl⟩ := List.mem_map.mp hx
          by_cases e : y.2.2 = k.2.2
          · rw [if_pos e]; exact .inl rfl
          · rw [if_neg e]; exact .inr ⟨hy, e⟩
        have kin : k ∈ held.map (fun x => if x.2.2 = k.2.2 then k else x) := List.mem_map.mpr ⟨h0, m0, by rw [if_pos e0]⟩
        have oin : ∀ x ∈ held, x.2.2 ≠ k.2.2 → x ∈ held.map (fun x => if x.2.2 = k.2.2 then k else x) := fun x hx e => List.mem_map.mpr ⟨x, hx, by rw [if_neg e]⟩
        have is0 : ∀ x ∈ held, x.2.2 = k.2.2 → x = h0 := fun x hx e => nodup_inj (f := fun (x : Key) => x.2.2) hj hx m0 (e.trans e0.symm)
        refine ⟨⟨len', wsub', wsort', fun h hh => ?_, ?_, fun h hh h' hh' e => ?_, fun h hh => ?_, fun i' h' j' hj' hx => ?_, fun i2 h2 => ?_, ?_, fun i2 h2 h hh => ?_, fun i2 h2 => ?_⟩, ?_⟩
        · rcases fwd h hh with hh | hh
          · exact ⟨i, i4, j, j3, hh.trans hk⟩
          · exact hsub h hh.1
        · dsimp only
          rw [List.map_map]
          have : (held.map ((fun (x : Key) => x.2.2) ∘ fun x => if x.2.2 = k.2.2 then k else x)) = held.map (fun x => x.2.2) := by
            apply List.map_congr_left
            intro x _
            show (if x.2.2 = k.2.2 then k else x).2.2 = x.2.2
            by_cases e : x.2.2 = k.2.2
            · rw [if_pos e]; exact e.symm
            · rw [if_neg e]
          rw [this]; exact hj
        · rcases fwd h hh with hh | hh
          · rcases fwd h' hh' with hh' | hh'
            · exact hh.trans hh'.symm
            · rw [hh, kI] at e; exact absurd e.symm (qhi h' hh'.1)
          · rcases fwd h' hh' with hh' | hh'
            · rw [hh', kI] at e; exact absurd e (qhi h hh.1)
            · exact hi h hh.1 h' hh'.1 e
        · rcases fwd h hh with hh | hh
          · rw [hh]; exact aheadk
          · exact ahead' h hh.1
        · rcases was i' _ hx with hx | hx
          · obtain ⟨h, hh, a, b⟩ := asked i' h' j' hj' hx
            by_cases e : h.2.2 = k.2.2
            · rw [is0 h hh e] at a b
              exact ⟨k, kin, e0.symm.trans a, kle_trans (kle_of_lt hlt) b⟩
            · exact ⟨h, oin h hh e, a, b⟩
          · exact ⟨k, kin, jk i' h' j' hj' hx, by rw [hx]; exact kle_refl _⟩
        · rcases List.mem_append.mp h2 with h2 | h2
          · exact q4' i2 h2
          · rw [List.mem_singleton] at h2; lia
        · dsimp only
          rw [List.nodup_append]
          refine ⟨qn.2, by simp, fun a ha b hb e => ?_⟩
          rw [List.mem_singleton] at hb
          subst e; subst hb
          exact qh' _ ha h0 m0 h0I
        · rcases fwd h hh with hh | hh
          · rw [hh, kI]
            rcases List.mem_append.mp h2 with h2 | h2
            · intro e
              have : i = i2 := by lia
              exact qn.1 (this ▸ h2)
            · rw [List.mem_singleton] at h2; lia
          · rcases List.mem_append.mp h2 with h2 | h2
            · exact qh' i2 h2 h hh.1
            · rw [List.mem_singleton] at h2
              intro e
              have := hi h hh.1 h0 m0 (by rw [e, h0I, h2])
              rw [this] at hh
              exact hh.2 e0
        · rcases all i2 h2 with h | ⟨h, hh, e⟩ | h
          · rcases List.mem_cons.mp h with rfl | h
            · exact .inr (.inl ⟨k, kin, kI⟩)
            · exact .inl (List.mem_append_left _ h)
          · by_cases e2 : h.2.2 = k.2.2
            · rw [is0 h hh e2, h0I] at e
              have : i0 = i2 := by lia
              exact .inl (by rw [← this]; simp)
            · exact .inr (.inl ⟨h, oin h hh e2, e⟩)
          · exact .inr (.inr (wnil i2 h))
        · unfold St.size; dsimp only; rw [List.length_append, List.length_cons, List.length_cons, List.length_nil]; lia
      · rw [if_neg hlt]
        refine ⟨⟨len', wsub', wsort', hsub, hj, hi, ahead', fun i' h' j' hj' hx => ?_, fun i2 h2 => ?_, ?_, fun i2 h2 h hh => ?_, fun i2 h2 => ?_⟩, ?_⟩
        · rcases was i' _ hx with hx | hx
          · exact asked i' h' j' hj' hx
          · exact ⟨h0, m0, e0.trans (jk i' h' j' hj' hx), by rw [hx]; exact kle_of_not hlt⟩
        · rcases List.mem_append.mp h2 with h2 | h2
          · exact q4' i2 h2
          · rw [List.mem_singleton] at h2; lia
        · dsimp only
          rw [List.nodup_append]
          refine ⟨qn.2, by simp, fun a ha b hb e => ?_⟩
          rw [List.mem_singleton] at hb
          subst e; subst hb
          exact qn.1 ha
        · rcases List.mem_append.mp h2 with h2 | h2
          · exact qh' i2 h2 h hh
          · rw [List.mem_singleton] at h2; rw [h2]; exact qhi h hh
        · rcases all i2 h2 with h | h | h
          · rcases List.mem_cons.mp h with rfl | h
            · exact .inl (by simp)
            · exact .inl (List.mem_append_left _ h)
          · exact .inr (.inl h)
          · exact .inr (.inr (wnil i2 h))
        · unfold St.size; dsimp only; rw [List.length_append, List.length_cons, List.length_cons, List.length_nil]; lia
theorem ask_run : ∀ (n : Nat) (s : St), AInv tbl s → s.size ≤ n → AInv tbl (askRun n s) ∧ (askRun n s).q = []
  | 0, s, v, h => by
    refine ⟨v, ?_⟩
    unfold St.size at h
    show s.q = []
    exact List.length_eq_zero_iff.mp (by lia)
  | n + 1, ⟨ws, held, []⟩, v, _ => ⟨v, rfl⟩
  | n + 1, ⟨ws, held, i :: q⟩, v, h => by
    have s := ask_step hI hJ v
    exact ask_run n (askStep ⟨ws, held, q⟩ i) s.1 (Nat.le_of_lt_succ (Nat.lt_of_lt_of_le s.2 h))
theorem ask_end {S : List Key} (hS : ∀ k, k ∈ S ↔ ∃ i, i < 4 ∧ ∃ j, j < 3 ∧ k = tbl i j) {s : St} (v : AInv tbl s) (hq : s.q = []) : Stable S s.held ∧ ∃ a b c, s.held = [a, b, c] ∧ a ≠ b ∧ a ≠ c ∧ b ≠ c := by
  obtain ⟨len, wsub, wsort, hsub, hj, hi, ahead, asked, q4, qn, qh, all⟩ := v
  obtain ⟨ws, held, q⟩ := s
  dsimp only at *
  subst hq
  have st : Stable S held := by
    refine ⟨fun m hm => (hS m).mpr (hsub m hm), fun m hm m' hm' hs => ?_, fun k hk => ?_⟩
    · rcases hs with h | h
      · exact hi m hm m' hm' h
      · exact nodup_inj (f := fun (x : Key) => x.2.2) hj hm hm' h
    · obtain ⟨i, i4, j, j3, e⟩ := (hS k).mp hk
      by_cases hx : tbl i j ∈ ws.getD i []
      · rcases all i i4 with h | ⟨h, hh, e2⟩ | h
        · cases h
        · exact ⟨h, hh, .inl (by rw [e2, e, hI i i4 j j3]), by rw [e]; exact ahead h hh i i4 e2 _ hx⟩
        · rw [h] at hx; cases hx
      · obtain ⟨h, hh, e2, hle⟩ := asked i i4 j j3 hx
        exact ⟨h, hh, .inr (by rw [e2, e, hJ i i4 j j3]), by rw [e]; exact hle⟩
  refine ⟨st, ?_⟩
  have jr : ∀ h ∈ held, 0 ≤ h.2.2 ∧ h.2.2 < 3 := fun h hh => by
    obtain ⟨i, i4, j, j3, e⟩ := hsub h hh
    have := hJ i i4 j j3
    rw [← e] at this
    lia
  have has : ∀ j : Nat, j < 3 → ∃ h ∈ held, h.2.2 = (j : Int) := by
    intro j j3
    by_cases hx : ∃ h ∈ held, h.2.2 = (j : Int)
    · exact hx
    · exfalso
      have each : ∀ i : Nat, i < 4 → ∃ h ∈ held, h.2.1 = (i : Int) := by
        intro i i4
        have hin : tbl i j ∈ ws.getD i [] := by
          refine Classical.byContradiction fun hn => hx ?_
          obtain ⟨h, hh, e, _⟩ := asked i i4 j j3 hn
          exact ⟨h, hh, e⟩
        rcases all i i4 with h | h | h
        · cases h
        · exact h
        · rw [h] at hin; cases hin
      obtain ⟨a, ha, ea⟩ := each 0 (by lia)
      obtain ⟨b, hb, eb⟩ := each 1 (by lia)
      obtain ⟨c, hc, ec⟩ := each 2 (by lia)
      have ra := jr a ha
      have rb := jr b hb
      have rc := jr c hc
      have xa : a.2.2 ≠ (j : Int) := fun e => hx ⟨a, ha, e⟩
      have xb : b.2.2 ≠ (j : Int) := fun e => hx ⟨b, hb, e⟩
      have xc : c.2.2 ≠ (j : Int) := fun e => hx ⟨c, hc, e⟩
      have ab : a.2.2 ≠ b.2.2 := fun e => by
        have := nodup_inj (f := fun (x : Key) => x.2.2) hj ha hb e
        rw [this, eb] at ea; cases ea
      have ac : a.2.2 ≠ c.2.2 := fun e => by
        have := nodup_inj (f := fun (x : Key) => x.2.2) hj ha hc e
        rw [this, ec] at ea; cases ea
      have bc : b.2.2 ≠ c.2.2 := fun e => by
        have := nodup_inj (f := fun (x : Key) => x.2.2) hj hb hc e
        rw [this, ec] at eb; cases eb
      rcases pig3 ra rb rc (nat_bd (n := j) rfl j3) ab ac bc with h | h | h
      · exact xa h
      · exact xb h
      · exact xc h
  obtain ⟨r0, m0, e0⟩ := has 0 (by lia)
  obtain ⟨r1, m1, e1⟩ := has 1 (by lia)
  obtain ⟨r2, m2, e2⟩ := has 2 (by lia)
  match held, hj, jr, m0, m1, m2 with
  | [], _, _, m0, _, _ => cases m0
  | [a], _, _, m0, m1, m2 =>
    rw [List.mem_singleton] at m0 m1
    rw [m0] at e0; rw [m1, e0] at e1; cases e1
  | [a, b], _, _, m0, m1, m2 =>
    exfalso
    simp only [List.mem_cons, List.not_mem_nil, or_false] at m0 m1 m2
    rcases m0 with rfl | rfl <;> rcases m1 with rfl | rfl <;> rcases m2 with rfl | rfl <;> lia
  | [a, b, c], hj, _, _, _, _ =>
    refine ⟨a, b, c, rfl, ?_, ?_, ?_⟩ <;> (rintro rfl; simp at hj)
  | a :: b :: c :: d :: t, hj, jr, _, _, _ =>
    exfalso
    have ra := jr a (by simp)
    have rb := jr b (by simp)
    have rc := jr c (by simp)
    have rd := jr d (by simp)
    rw [List.map_cons, List.map_cons, List.map_cons, List.map_cons, List.nodup_cons, List.nodup_cons, List.nodup_cons] at hj
    rcases pig3 ra rb rc rd (fun e => hj.1 (e ▸ .head _)) (fun e => hj.1 (e ▸ .tail _ (.head _))) (fun e => hj.2.1 (e ▸ .head _)) with h | h | h
    · exact hj.1 (h ▸ .tail _ (.tail _ (.head _)))
    · exact hj.2.1 (h ▸ .tail _ (.head _))
    · exact hj.2.2.1 (h ▸ .head _)
theorem ask_start {ws : List (List Key)} (hl : ws.length = 4) (hw : ∀ i, i < 4 → ws.getD i [] = srt [tbl i 0, tbl i 1, tbl i 2]) : AInv tbl ⟨ws, [], [0, 1, 2, 3]⟩ ∧ St.size ⟨ws, [], [0, 1, 2, 3]⟩ ≤ 16 := by
  have f : ∀ i, i < 4 → (srt [tbl i 0, tbl i 1, tbl i 2]).Pairwise (fun a b => keyLt a b = true) ∧ ∀ k, k ∈ srt [tbl i 0, tbl i 1, tbl i 2] ↔ (k = tbl i 0 ∨ k = tbl i 1 ∨ k = tbl i 2) := by
    intro i i4
    have j0 := hJ i i4 0 (by lia)
    have j1 := hJ i i4 1 (by lia)
    have j2 := hJ i i4 2 (by lia)
    exact sort3_facts (fun e => by rw [e, j1] at j0; cases j0) (fun e => by rw [e, j2] at j0; cases j0) (fun e => by rw [e, j2] at j1; cases j1)
  refine ⟨⟨hl, fun i i4 k hk => ?_, fun i i4 => ?_, by simp, by simp, by simp, by simp, fun i i4 j j3 hx => ?_, by simp, by simp, by simp, fun i i4 => .inl ?_⟩, ?_⟩
  · dsimp only at hk
    rw [hw i i4] at hk
    rcases ((f i i4).2 k).mp hk with h | h | h
    · exact ⟨0, by lia, h⟩
    · exact ⟨1, by lia, h⟩
    · exact ⟨2, by lia, h⟩
  · dsimp only
    rw [hw i i4]; exact (f i i4).1
  · dsimp only at hx
    rw [hw i i4] at hx
    refine absurd (((f i i4).2 _).mpr ?_) hx
    have : j = 0 ∨ j = 1 ∨ j = 2 := by lia
    rcases this with rfl | rfl | rfl <;> simp
  · dsimp only
    have : i = 0 ∨ i = 1 ∨ i = 2 ∨ i = 3 := by lia
    rcases this with rfl | rfl | rfl | rfl <;> simp
  · have l3 : ∀ i, i < 4 → (ws.getD i []).length = 3 := fun i i4 => by rw [hw i i4]; exact sort3_len' _ _ _
    have z0 := l3 0 (by lia)
    have z1 := l3 1 (by lia)
    have z2 := l3 2 (by lia)
    have z3 := l3 3 (by lia)
    match ws, hl with
    | [a, b, c, d], _ =>
      have y0 : a.length = 3 := z0
      have y1 : b.length = 3 := z1
      have y2 : c.length = 3 := z2
      have y3 : d.length = 3 := z3
      unfold St.size
      simp [y0, y1, y2, y3]
/-- the asking ends with the nearest first -/
theorem ask_nearest {S : List Key} {ws : List (List Key)} (h12 : S.length = 12) (hS : ∀ k, k ∈ S ↔ ∃ i, i < 4 ∧ ∃ j, j < 3 ∧ k = tbl i j) (hl : ws.length = 4) (hw : ∀ i, i < 4 → ws.getD i [] = srt [tbl i 0, tbl i 1, tbl i 2]) :
    ∃ a b c, (askRun 16 ⟨ws, [], [0, 1, 2, 3]⟩).held = [a, b, c] ∧ a ≠ b ∧ a ≠ c ∧ b ≠ c ∧ sort3 a b c = nearest S ∧ leastOf tbl = nearest S ∧ lrows tbl 3 ≠ [] ∧ Stable S (nearest S) ∧ (nearest S).length = 3 := by
  have st := ask_start hI hJ hl hw
  have rn := ask_run hI hJ 16 _ st.1 st.2
  obtain ⟨hs, a, b, c, e, n1, n2, n3⟩ := ask_end hI hJ hS rn.1 rn.2
  rw [e] at hs
  have sf := sort3_facts n1 n2 n3
  have ms : ∀ k, k ∈ sort3 a b c ↔ k ∈ [a, b, c] := fun k => by rw [sf.2 k]; simp
  have hs' : Stable S (sort3 a b c) := ⟨fun m hm => hs.sub m ((ms m).mp hm), fun m hm m' hm' => hs.one m ((ms m).mp hm) m' ((ms m').mp hm'), fun k hk => by
    obtain ⟨m, hm, h⟩ := hs.dom k hk
    exact ⟨m, (ms m).mpr hm, h⟩⟩
  have eq := stable_nearest h12 hs' sf.1
  have l3 := least_stable hI hJ hS hs' sf.1 (sort3_len' a b c)
  exact ⟨a, b, c, e, n1, n2, n3, eq, l3.1.trans eq, l3.2, eq ▸ hs', eq ▸ sort3_len' a b c⟩
end
end
section
/-- the keys, row by row -/
noncomputable def allK (tbl : Nat → Nat → Key) : List Key := [tbl 0 0, tbl 0 1, tbl 0 2, tbl 1 0, tbl 1 1, tbl 1 2, tbl 2 0, tbl 2 1, tbl 2 2, tbl 3 0, tbl 3 1, tbl 3 2]
noncomputable def rowsOf (tbl : Nat → Nat → Key) (a0 a1 a2 a3 : Addr) : List (Addr × List Key) := [(a0, [tbl 0 0, tbl 0 1, tbl 0 2]), (a1, [tbl 1 0, tbl 1 1, tbl 1 2]), (a2, [tbl 2 0, tbl 2 1, tbl 2 2]), (a3, [tbl 3 0, tbl 3 1, tbl 3 2])]
theorem allK_mem (tbl : Nat → Nat → Key) (k : Key) : k ∈ allK tbl ↔ ∃ i, i < 4 ∧ ∃ j, j < 3 ∧ k = tbl i j := by
  constructor
  · intro h
    simp only [allK, List.mem_cons, List.not_mem_nil, or_false] at h
    rcases h with h | h | h | h | h | h | h | h | h | h | h | h
    · exact ⟨0, by lia, 0, by lia, h⟩
    · exact ⟨0, by lia, 1, by lia, h⟩
    · exact ⟨0, by lia, 2, by lia, h⟩
    · exact ⟨1, by lia, 0, by lia, h⟩
    · exact ⟨1, by lia, 1, by lia, h⟩
    · exact ⟨1, by lia, 2, by lia, h⟩
    · exact ⟨2, by lia, 0, by lia, h⟩
    · exact ⟨2, by lia, 1, by lia, h⟩
    · exact ⟨2, by lia, 2, by lia, h⟩
    · exact ⟨3, by lia, 0, by lia, h⟩
    · exact ⟨3, by lia, 1, by lia, h⟩
    · exact ⟨3, by lia, 2, by lia, h⟩
  · rintro ⟨i, hi, j, hj, rfl⟩
    have ei : i = 0 ∨ i = 1 ∨ i = 2 ∨ i = 3 := by lia
    have ej : j = 0 ∨ j = 1 ∨ j = 2 := by lia
    rcases ei with rfl | rfl | rfl | rfl <;> rcases ej with rfl | rfl | rfl <;> simp [allK]
theorem allK_nodup {tbl : Nat → Nat → Key} (hI : ∀ i, i < 4 → ∀ j, j < 3 → (tbl i j).2.1 = (i : Int)) (hJ : ∀ i, i < 4 → ∀ j, j < 3 → (tbl i j).2.2 = (j : Int)) : ((allK tbl).map fun k => k.2.1 * 3 + k.2.2).Nodup := by
  simp only [allK, List.map_cons, List.map_nil]
  rw [hI 0 (by lia) 0 (by lia), hI 0 (by lia) 1 (by lia), hI 0 (by lia) 2 (by lia), hI 1 (by lia) 0 (by lia), hI 1 (by lia) 1 (by lia), hI 1 (by lia) 2 (by lia), hI 2 (by lia) 0 (by lia), hI 2 (by lia) 1 (by lia), hI 2 (by lia) 2 (by lia), hI 3 (by lia) 0 (by lia), hI 3 (by lia) 1 (by lia), hI 3 (by lia) 2 (by lia),
    hJ 0 (by lia) 0 (by lia), hJ 0 (by lia) 1 (by lia), hJ 0 (by lia) 2 (by lia), hJ 1 (by lia) 0 (by lia), hJ 1 (by lia) 1 (by lia), hJ 1 (by lia) 2 (by lia), hJ 2 (by lia) 0 (by lia), hJ 2 (by lia) 1 (by lia), hJ 2 (by lia) 2 (by lia), hJ 3 (by lia) 0 (by lia), hJ 3 (by lia) 1 (by lia), hJ 3 (by lia) 2 (by lia)]
  decide
/-- where a key stands -/
noncomputable def adrOf (l : List AP) (k : Key) : Addr := match l.find? (fun q => decide (q.2 = k)) with
  | some q => q.1
  | none => 0
theorem adrOf_at : ∀ {l : List AP} {q : AP}, (l.map (·.2)).Nodup → q ∈ l → adrOf l q.2 = q.1
  | x :: l, q, hn, hq => by
    rw [List.map_cons, List.nodup_cons] at hn
    unfold adrOf
    rw [List.find?_cons]
    rcases List.mem_cons.mp hq with rfl | hq
    · rw [decide_eq_true rfl]
    · rw [decide_eq_false (fun e => hn.1 (by rw [e]; exact List.mem_map.mpr ⟨q, hq, rfl⟩))]
      exact adrOf_at hn.2 hq
theorem rows_facts {tbl : Nat → Nat → Key} {ts : List (Addr × Obj)} {rws : Rws} (hI : ∀ i, i < 4 → ∀ j, j < 3 → (tbl i j).2.1 = (i : Int)) (hJ : ∀ i, i < 4 → ∀ j, j < 3 → (tbl i j).2.2 = (j : Int)) (h : RowsOk tbl ts 4 rws) :
    ∃ a0 a1 a2 a3 adr, rws.map (fun r => Value.ref r.1) = (rowsOf tbl a0 a1 a2 a3).map (fun r => Value.ref r.1) ∧ (∀ r ∈ rowsOf tbl a0 a1 a2 a3, ∃ n, (r.1, listOf (kvs adr r.2).toArray n) ∈ ts) ∧ ∀ r ∈ rowsOf tbl a0 a1 a2 a3, ∀ k ∈ r.2, KeyIn ts adr k := by
  obtain ⟨hl, h⟩ := h
  obtain ⟨r0, e0, m0, k0, p0⟩ := h 0 (by lia)
  obtain ⟨r1, e1, m1, k1, p1⟩ := h 1 (by lia)
  obtain ⟨r2, e2, m2, k2, p2⟩ := h 2 (by lia)
  obtain ⟨r3, e3, m3, k3, p3⟩ := h 3 (by lia)
  match rws, hl with
  | [x0, x1, x2, x3], _ =>
    cases e0; cases e1; cases e2; cases e3
    have hall : (r0.2.1 ++ r1.2.1 ++ r2.2.1 ++ r3.2.1).map (·.2) = allK tbl := by
      rw [List.map_append, List.map_append, List.map_append, k0, k1, k2, k3]; rfl
    have nod : ((r0.2.1 ++ r1.2.1 ++ r2.2.1 ++ r3.2.1).map (·.2)).Nodup := by
      rw [hall]
      have nodup_of : ∀ {l : List Key}, (l.map fun k => k.2.1 * 3 + k.2.2).Nodup → l.Nodup := by
        intro l
        induction l with
        | nil => intro _; exact .nil
        | cons a l ih =>
          intro hn
          rw [List.map_cons, List.nodup_cons] at hn
          rw [List.nodup_cons]
          exact ⟨fun hm => hn.1 (List.mem_map.mpr ⟨a, hm, rfl⟩), ih hn.2⟩
      exact nodup_of (allK_nodup hI hJ)
    have at_ := fun q (hq : q ∈ r0.2.1 ++ r1.2.1 ++ r2.2.1 ++ r3.2.1) => adrOf_at nod hq
    have s0 : ∀ q ∈ r0.2.1, q ∈ r0.2.1 ++ r1.2.1 ++ r2.2.1 ++ r3.2.1 := fun q hq => by simp [hq]
    have s1 : ∀ q ∈ r1.2.1, q ∈ r0.2.1 ++ r1.2.1 ++ r2.2.1 ++ r3.2.1 := fun q hq => by simp [hq]
    have s2 : ∀ q ∈ r2.2.1, q ∈ r0.2.1 ++ r1.2.1 ++ r2.2.1 ++ r3.2.1 := fun q hq => by simp [hq]
    have s3 : ∀ q ∈ r3.2.1, q ∈ r0.2.1 ++ r1.2.1 ++ r2.2.1 ++ r3.2.1 := fun q hq => by simp [hq]
    generalize r0.2.1 ++ r1.2.1 ++ r2.2.1 ++ r3.2.1 = al at at_ s0 s1 s2 s3
    have rowE : ∀ (r : Addr × List (Addr × Key) × Nat) (ks : List Key), r.2.1.map (·.2) = ks → (∀ q ∈ r.2.1, q ∈ al) → (r.1, listOf (pvs r.2.1).toArray r.2.2) ∈ ts → (r.1, listOf (kvs (adrOf al) ks).toArray r.2.2) ∈ ts := by
      intro r ks hk hs hm
      have : kvs (adrOf al) ks = pvs r.2.1 := by
        rw [← hk]
        unfold kvs pvs
        rw [List.map_map]
        apply List.map_congr_left
        intro q hq
        show Value.ref (adrOf al q.2) = Value.ref q.1
        rw [at_ q (hs q hq)]
      rw [this]; exact hm
    have keyE : ∀ (r : Addr × List (Addr × Key) × Nat) (ks : List Key), r.2.1.map (·.2) = ks → (∀ q ∈ r.2.1, q ∈ al) → (∀ q ∈ r.2.1, PairIn ts q) → ∀ k ∈ ks, KeyIn ts (adrOf al) k := by
      intro r ks hk hs hp k hkm
      rw [← hk] at hkm
      obtain ⟨q, hq, rfl⟩ := List.mem_map.mp hkm
      obtain ⟨o, ho, hko⟩ := hp q hq
      exact ⟨o, by rw [at_ q (hs q hq)]; exact ho, hko⟩
    refine ⟨r0.1, r1.1, r2.1, r3.1, adrOf al, rfl, fun r hr => ?_, fun r hr => ?_⟩
    · simp only [rowsOf, List.mem_cons, List.not_mem_nil, or_false] at hr
      rcases hr with rfl | rfl | rfl | rfl
      · exact ⟨_, rowE r0 _ k0 s0 m0⟩
      · exact ⟨_, rowE r1 _ k1 s1 m1⟩
      · exact ⟨_, rowE r2 _ k2 s2 m2⟩
      · exact ⟨_, rowE r3 _ k3 s3 m3⟩
    · simp only [rowsOf, List.mem_cons, List.not_mem_nil, or_false] at hr
      rcases hr with rfl | rfl | rfl | rfl
      · exact keyE r0 _ k0 s0 p0
      · exact keyE r1 _ k1 s1 p1
      · exact keyE r2 _ k2 s2 p2
      · exact keyE r3 _ k3 s3 p3
/-- the table that the contracts speak of -/
theorem tbl_of (tbl : Nat → Nat → Key) (a0 a1 a2 a3 : Addr) : ∀ i, i < 4 → ∀ j, j < 3 → ((rowsOf tbl a0 a1 a2 a3).getD i (0, [])).2.getD j (0, 0, 0) = tbl i j := by
  intro i hi j hj
  have ei : i = 0 ∨ i = 1 ∨ i = 2 ∨ i = 3 := by lia
  have ej : j = 0 ∨ j = 1 ∨ j = 2 := by lia
  rcases ei with rfl | rfl | rfl | rfl <;> rcases ej with rfl | rfl | rfl <;> rfl
/-- what the three ways tell -/
theorem ways {tbl : Nat → Nat → Key} (a0 a1 a2 a3 : Addr) (hI : ∀ i, i < 4 → ∀ j, j < 3 → (tbl i j).2.1 = (i : Int)) (hJ : ∀ i, i < 4 → ∀ j, j < 3 → (tbl i j).2.2 = (j : Int)) :
    ∃ a b c, (askRun 16 ⟨(rowsOf tbl a0 a1 a2 a3).map fun r => srt r.2, [], [0, 1, 2, 3]⟩).held = [a, b, c] ∧ a ≠ b ∧ a ≠ c ∧ b ≠ c ∧ sort3 a b c = nearest (allK tbl) ∧ leastOf (fun i j => ((rowsOf tbl a0 a1 a2 a3).getD i (0, [])).2.getD j (0, 0, 0)) = nearest (allK tbl) ∧
      lrows (fun i j => ((rowsOf tbl a0 a1 a2 a3).getD i (0, [])).2.getD j (0, 0, 0)) 3 ≠ [] ∧ Stable (allK tbl) (nearest (allK tbl)) ∧ (nearest (allK tbl)).length = 3 := by
  have e := tbl_of tbl a0 a1 a2 a3
  refine ask_nearest (tbl := fun i j => ((rowsOf tbl a0 a1 a2 a3).getD i (0, [])).2.getD j (0, 0, 0)) (S := allK tbl) (fun i hi j hj => ?_) (fun i hi j hj => ?_) rfl (fun k => (allK_mem tbl k).trans ?_) rfl (fun i hi => ?_)
  · rw [e i hi j hj]; exact hI i hi j hj
  · rw [e i hi j hj]; exact hJ i hi j hj
  · constructor
    · rintro ⟨i, hi, j, hj, h⟩; exact ⟨i, hi, j, hj, by rw [h]; exact (e i hi j hj).symm⟩
    · rintro ⟨i, hi, j, hj, h⟩; exact ⟨i, hi, j, hj, by rw [h]; exact e i hi j hj⟩
  · have : i = 0 ∨ i = 1 ∨ i = 2 ∨ i = 3 := by lia
    rcases this with rfl | rfl | rfl | rfl <;> rfl
end
section
theorem law_10 {w : World} {g : Heap} {L fa : Addr} {cd : Value} {s : Shared} {p : Program} {loose : List Str} {mean : ExcName → Option Value} {mg mb : Str → Option Value} {Q : Flow → Shared → Prop} {E : Value → Shared → Prop} {u : Str → Option Value} {DK : Addr} {R : List (Addr × Obj)} {rows : List (Addr × List Key)} {adr : Key → Addr}
    (B : Below callerA g [] g) (F : Fr g L s.heap (kstB u [("keys", .ref DK)])) (X₀ : (Mine.hd.heap_1 w.params).In g) (T : Top p loose mean mg mb g) (N : News g L s.heap R)
    (hka : ∃ n, (DK, listOf (rows.map fun r => Value.ref r.1).toArray n) ∈ R) (hrows : ∀ r ∈ rows, ∃ n, (r.1, listOf (kvs adr r.2).toArray n) ∈ R) (hK : ∀ r ∈ rows, ∀ k ∈ r.2, KeyIn R adr k) (h12 : (rows.flatMap (·.2)).length = 12)
    (h : ∀ h' tk' u' P ps np tl, Fr g L h' (kstB u' [("keys", .ref DK), ("pairs", .ref P)]) → News g L h' ((P, listOf (pvs ps).toArray np) :: (tl ++ R)) → (∀ p ∈ tl ++ R, p.1 ≠ P) → (∀ q ∈ ps, PairIn tl q) → ps.map (·.2) = nearest (rows.flatMap (·.2)) → (∀ p ∈ R, p.1 < P) → 
      wpAny (model PySem.Challenge.rw_pg0112_01.row.prog w) (callerA.deeper (envOfC "law" lawS L fa cd)) (execs (lawB.drop 10) (envOfC "law" lawS L fa cd)) Q E { s with heap := h', toks := tk' }) :
    wpAny (model PySem.Challenge.rw_pg0112_01.row.prog w) (callerA.deeper (envOfC "law" lawS L fa cd)) (execs (lawB.drop 9) (envOfC "law" lawS L fa cd)) Q E s := by
  have eS : lawS = lawS := rfl
  conv at eS => rhs; whnf
  have eB : lawB = lawB := rfl
  conv at eB => rhs; whnf
  rw [eB] at h ⊢
  rw [eS] at h ⊢
  dsimp only [List.drop] at h ⊢
  clear eB eS
  revert X₀; k_fill; intro X₀
  walk
  refine lift rfl (Nat.le_of_ble_eq_true rfl) rfl (Nat.le_of_ble_eq_true rfl) (nearest_spec (rows := rows) (adr := adr) B (by assumption) X₀ T rfl (by assumption) hka hrows hK h12 ?_)
  intro h9 tk9 P ps np tl F9 N9 o9 hp1 hp2 hlt
  repeat' ((fail_if_success (with_reducible show wpAny _ _ (execs (_ :: _) _) _ _ _)); walk1; try dsimp only)
  rename Fr g L _ _ => F10
  rename News g L _ _ => N10
  first | refine Exists.elim (Fr.some F10 [("keys", .ref DK), ("pairs", .ref P)] ⟨rfl, rfl, trivial⟩) fun u' F11 => ?_ | refine and_on2 (Fr.some F10 [("keys", .ref DK), ("pairs", .ref P)] ⟨rfl, rfl, trivial⟩) fun u' F11 => ?_
  exact h _ _ u' P ps np tl F11 N10 o9 hp1 hp2 hlt
end
section
theorem law_11 {w : World} {g : Heap} {L fa : Addr} {cd : Value} {s : Shared} {p : Program} {loose : List Str} {mean : ExcName → Option Value} {mg mb : Str → Option Value} {Q : Flow → Shared → Prop} {E : Value → Shared → Prop} {u : Str → Option Value} {DK P : Addr} {R : List (Addr × Obj)} {tbl : Nat → Nat → Key} {a0 a1 a2 a3 : Addr} {adr : Key → Addr} {l : Lex} {tx : Str} {ln : Int} {tl tn : Tok} {n nn np nP : Nat} {c3 : Obj} {pl : List AP}
    (B : Below callerA g [] g) (F : Fr g L s.heap (kstB u [("keys", .ref DK), ("pairs", .ref P)])) (X₀ : (Mine.hd.heap_1 w.params).In g) (T : Top p loose mean mg mb g) (N : News g L s.heap (l.led w ln tl n tn nn [] np ++ R)) (ok : l.Ok w tx) (hoff : ∀ p ∈ R, p.1 ≠ l.dl ∧ p.1 ≠ l.at0 ∧ p.1 ≠ l.pb)
    (hn : n ≤ tx.length) (hl : tx.length < 1000) (hln : 0 ≤ ln ∧ ln < 1000) (htx : tx.cps.toList.drop n = [])
    (hka : ∃ n, (DK, listOf ((rowsOf tbl a0 a1 a2 a3).map fun r => Value.ref r.1).toArray n) ∈ R) (hrows : ∀ r ∈ rowsOf tbl a0 a1 a2 a3, ∃ n, (r.1, listOf (kvs adr r.2).toArray n) ∈ R) (hK : ∀ r ∈ rowsOf tbl a0 a1 a2 a3, ∀ k ∈ r.2, KeyIn R adr k)
    (hI : ∀ i, i < 4 → ∀ j, j < 3 → (tbl i j).2.1 = (i : Int)) (hJ : ∀ i, i < 4 → ∀ j, j < 3 → (tbl i j).2.2 = (j : Int))
    (m3 : (L + 1 + 1 + 1, c3) ∈ R) (d3 : c3.data = .cell (some (.ref l.lx))) (mP : (P, listOf (pvs pl).toArray nP) ∈ R) (hP : ∀ q ∈ pl, PairIn R q) (hpl : pl.map (·.2) = nearest (allK tbl))
    (h : ∀ h' tk' u' tl' nf' tn' np', Fr g L h' (kstB u' [("keys", .ref DK), ("pairs", .ref P)]) → News g L h' (l.led w ln tl' nf' tn' nn [] np' ++ R) → 
      wpAny (model PySem.Challenge.rw_pg0112_01.row.prog w) (callerA.deeper (envOfC "law" lawS L fa cd)) (execs (lawB.drop 11) (envOfC "law" lawS L fa cd)) Q E { s with heap := h', toks := tk' }) :
    wpAny (model PySem.Challenge.rw_pg0112_01.row.prog w) (callerA.deeper (envOfC "law" lawS L fa cd)) (execs (lawB.drop 10) (envOfC "law" lawS L fa cd)) Q E s := by
  refine goal_G fun GG hGG => ?_
  obtain ⟨ha, hb, hc, hfin, hab, hac, hbc, hsort, hleast, hne, _, _⟩ := ways a0 a1 a2 a3 hI hJ
  refine hGG ?_
  clear hGG GG
  have hat := tbl_of tbl a0 a1 a2 a3
  have eS : lawS = lawS := rfl
  conv at eS => rhs; whnf
  have eB : lawB = lawB := rfl
  conv at eB => rhs; whnf
  rw [eB] at h ⊢
  rw [eS] at h ⊢
  dsimp only [List.drop] at h ⊢
  clear eB eS
  revert X₀; k_fill; intro X₀
  generalize hX : l.led w ln tl n tn nn [] np ++ R = X at N
  have mX : ∀ p ∈ R, p ∈ X := fun p hp => by rw [← hX]; exact List.mem_append_right _ hp
  have N1 : News g L s.heap ((L + 1 + 1 + 1, c3) :: X) := News.sub N fun p hp => by
    rcases List.mem_cons.mp hp with rfl | hp
    · exact mX _ m3
    · exact hp
  clear N
  walk1
  walk
  rename News g L _ _ => N2
  rename Fr g L _ _ => F2
  refine lift rfl (Nat.le_of_ble_eq_true rfl) rfl (Nat.le_of_ble_eq_true rfl) (asking_spec (rows := rowsOf tbl a0 a1 a2 a3) (adr := adr) (l := l) (rest := R) (ha := ha) (hb := hb) (hc := hc) B F2 X₀ T rfl (News.sub N2 fun p hp => .tail _ (by rw [← hX]; exact hp)) ok hoff hn hl hln htx hka hrows hK rfl ?_ ?_ ?_ hfin hab hac hbc ?_)
  · intro r hr
    simp only [rowsOf, List.mem_cons, List.not_mem_nil, or_false] at hr
    rcases hr with rfl | rfl | rfl | rfl <;> rfl
  · intro i hi j hj; rw [hat i hi j hj]; exact hI i hi j hj
  · intro i hi j hj; rw [hat i hi j hj]; exact hJ i hi j hj
  intro h9 tk9 P2 ps2 nP2 np2 tl2 tn2 nf2 F9 N9 o9 hp2 he2
  clear N2 F2
  iterate 1 (walk1; try dsimp only)
  refine keys_ne (ps := ps2) (qs := pl) (N9.isList (n := nP2) (.head _)) (N9.isList (n := nP) (.tail _ (List.mem_append_right _ mP))) ?_ ?_ (Nat.le_of_ble_eq_true rfl) ?_
  · intro q hq
    exact PairIn.isKey N9 ((hp2 q hq).sub fun p hp => .tail _ (List.mem_append_right _ hp))
  · intro q hq
    exact PairIn.isKey N9 ((hP q hq).sub fun p hp => .tail _ (List.mem_append_right _ hp))
  rw [he2, hpl, hsort, decide_eq_true rfl]
  refine wpAny_truthy_bool ?_
  refine ifF (by simp) ?_
  generalize hX2 : ((P2, listOf (pvs ps2).toArray nP2) :: (l.led w ln tl2 nf2 tn2 nn [] np2 ++ R)) = X2 at N9
  have mX2 : ∀ p ∈ R, p ∈ X2 := fun p hp => by rw [← hX2]; exact .tail _ (List.mem_append_right _ hp)
  refine isTrue_or ?_
  walk
  rename Fr g L _ _ => F10
  rename News g L _ _ => N10
  first | refine Exists.elim (hka) fun nk hka => ?_ | refine and_on2 (hka) fun nk hka => ?_
  refine lift rfl (Nat.le_of_ble_eq_true rfl) rfl (Nat.le_of_ble_eq_true rfl) (least_spec (rows := rowsOf tbl a0 a1 a2 a3) (adr := adr) (rest := X2) B F10 X₀ T rfl N10 ⟨nk, mX2 _ hka⟩ (fun r hr => ?_) (fun r hr k hk => (hK r hr k hk).sub mX2) rfl ?_ ?_ hne ?_)
  · first | refine Exists.elim (hrows r hr) fun n hn => ?_ | refine and_on2 (hrows r hr) fun n hn => ?_
    exact ⟨n, mX2 _ hn⟩
  · intro r hr
    simp only [rowsOf, List.mem_cons, List.not_mem_nil, or_false] at hr
    rcases hr with rfl | rfl | rfl | rfl <;> rfl
  · intro i hi j hj; rw [hat i hi j hj]; exact hJ i hi j hj
  intro h12 tk12 P3 ps3 nP3 tl3 F12 N12 mP3 hp3 he3
  refine keys_ne (ps := pl) (qs := ps3) (N12.isList (n := nP) (List.mem_append_right _ (mX2 _ mP))) (N12.isList (n := nP3) (List.mem_append_left _ mP3)) ?_ ?_ (Nat.le_of_ble_eq_true rfl) ?_
  · intro q hq
    exact PairIn.isKey N12 ((hP q hq).sub fun p hp => List.mem_append_right _ (mX2 _ hp))
  · intro q hq
    exact PairIn.isKey N12 ((hp3 q hq).sub fun p hp => List.mem_append_right _ hp)
  rw [he3, hpl, hleast, decide_eq_true rfl]
  refine wpAny_truthy_bool ?_
  refine ifF (by simp) ?_
  have N13 : News g L h12 (l.led w ln tl2 nf2 tn2 nn [] np2 ++ R) := News.sub N12 fun p hp => List.mem_append_right _ (by rw [← hX2]; exact .tail _ hp)
  clear N10 N12 F10
  refine isTrue_or_nil ?_
  refine ifF (by simp) ?_
  generalize hX4 : (l.led w ln tl2 nf2 tn2 nn [] np2 ++ R) = X4 at N13
  first | refine Exists.elim (Fr.some F12 [("keys", .ref DK), ("pairs", .ref P)] ⟨rfl, rfl, trivial⟩) fun u' F13 => ?_ | refine and_on2 (Fr.some F12 [("keys", .ref DK), ("pairs", .ref P)] ⟨rfl, rfl, trivial⟩) fun u' F13 => ?_
  clear F12
  repeat' ((fail_if_success (with_reducible show wpAny _ _ (execs (_ :: _) _) _ _ _)); walk1; try dsimp only)
  exact h _ _ u' _ _ _ _ F13 (by rw [hX4]; exact N13)
end
section
open PyProof.Rows.LCg (NsObj ns_obj)
theorem law_12 {w : World} {g : Heap} {L fa : Addr} {cd : Value} {s : Shared} {p : Program} {loose : List Str} {mean : ExcName → Option Value} {mg mb : Str → Option Value} {Q : Flow → Shared → Prop} {u : Str → Option Value} {DK P : Addr} {R : List (Addr × Obj)} {rows : List (Addr × List Key)} {S : List Key} {adr : Key → Addr} {nP : Nat} {c1 : Obj} {k1 : Option Value} {pl : List AP}
    (B : Below callerA g [] g) (F : Fr g L s.heap (kstB u [("keys", .ref DK), ("pairs", .ref P)])) (X₀ : (Mine.hd.heap_1 w.params).In g) (T : Top p loose mean mg mb g) (N : News g L s.heap ((L + 1 + 1 + 1 + 1 + 1, c1) :: R)) (o1 : Off (L + 1 + 1 + 1 + 1 + 1) R) (d1 : c1.data = .cell k1)
    (hka : ∃ n, (DK, listOf (rows.map fun r => Value.ref r.1).toArray n) ∈ R) (hrows : ∀ r ∈ rows, ∃ n, (r.1, listOf (kvs adr r.2).toArray n) ∈ R) (hK : ∀ r ∈ rows, ∀ k ∈ r.2, KeyIn R adr k ∧ k ∈ S) (hl : rows.length < 100 ∧ ∀ r ∈ rows, r.2.length < 100)
    (mP : (P, listOf (pvs pl).toArray nP) ∈ R) (hP : ∀ q ∈ pl, PairIn R q) (hl3 : pl.length < 100) (hst : Stable S (pl.map (·.2)))
    (h : ∀ h' tk' u' c1', Fr g L h' (kstB u' []) → News g L h' ((L + 1 + 1 + 1 + 1 + 1, c1') :: R) → 
      wpAny (model PySem.Challenge.rw_pg0112_01.row.prog w) (callerA.deeper (envOfC "law" lawS L fa cd)) (execs (lawB.drop 12) (envOfC "law" lawS L fa cd)) Q noE { s with heap := h', toks := tk' }) :
    wpAny (model PySem.Challenge.rw_pg0112_01.row.prog w) (callerA.deeper (envOfC "law" lawS L fa cd)) (execs (lawB.drop 11) (envOfC "law" lawS L fa cd)) Q noE s := by
  have eS : lawS = lawS := rfl
  conv at eS => rhs; whnf
  have eB : lawB = lawB := rfl
  conv at eB => rhs; whnf
  rw [eB] at h ⊢
  rw [eS] at h ⊢
  dsimp only [List.drop] at h ⊢
  clear eB eS
  revert X₀; k_fill; intro X₀
  walk1
  refine wpAny_For ?_
  walk
  rename News g L _ _ => N2
  rename Fr g L _ _ => F2
  first | refine Exists.elim (hka) fun nk hka => ?_ | refine and_on2 (hka) fun nk hka => ?_
  refine wpAny_pyIter_list (N2.isList (.tail _ hka)) ?_
  refine and_on3 (led_new (o := { cls := .type "list_iterator", data := .fields #[.ref DK, .int 0 0] }) F2 N2 rfl) fun F4 N4 ne4 => ?_
  generalize hI : Array.size _ = I at N4 ne4 ⊢
  have hd1 := d1
  have nI1 : L + 1 + 1 + 1 + 1 + 1 ≠ I := ne4 (_, c1) (.head _)
  have oIR : Off I R := fun p hp => ne4 p (.tail _ hp)
  clear N2 F2 hI d1
  refine For_G (fun n m₁ news₁ => Ex5 fun dn td oI c1 k1 => rows = dn ++ td ∧ n = td.length ∧ news₁ = ((I, oI) :: (L + 1 + 1 + 1 + 1 + 1, c1) :: R) ∧ isLi oI DK dn.length ∧ c1.data = .cell k1 ∧ AllIs m₁ [("keys", .ref DK), ("pairs", .ref P)]) (n₀ := rows.length) F4 N4
    (Ex5.mk ([]) rows _ c1 k1 ⟨rfl, rfl, rfl, ⟨rfl, rfl⟩, hd1, ⟨rfl, rfl, trivial⟩⟩) ?_
  clear F4 N4
  intro J1 Q1 hJ1 hQ1 n m₁ news₁ h5 tk5 F5 N5 hJJ
  refine hJJ _ fun dn td oI c1 k1 hAA => ?_
  refine and_on6 hAA fun hrd hE1 hE2 hli d1 hm => ?_
  clear hAA hJJ
  refine goal_G fun GG hGG => ?_
  subst hE1
  subst hE2
  refine hGG ?_
  clear hGG GG
  first | refine Exists.elim (Fr.some F5 _ hm) fun u5 F5 => ?_ | refine and_on2 (Fr.some F5 _ hm) fun u5 F5 => ?_
  clear hm
  have hlK := N5.isList (.tail _ (.tail _ hka))
  rcases td with _ | ⟨r, td⟩
  · refine next_list_end rfl F5 N5 (Off.cons nI1 oIR) hli hlK (by rw [hrd]; simp) ?_
    intro h6 F6 N6
    refine hQ1 _ _ ?_
    clear F5 N5
    dsimp only
    first | refine Exists.elim (Fr.some F6 [] trivial) fun u' F7 => ?_ | refine and_on2 (Fr.some F6 [] trivial) fun u' F7 => ?_
    exact h _ _ u' c1 F7 N6
  · first | refine Exists.elim (hrows r (by rw [hrd]; simp)) fun nr hrm => ?_ | refine and_on2 (hrows r (by rw [hrd]; simp)) fun nr hrm => ?_
    have hKr := hK r (by rw [hrd]; simp)
    have hlr := hl.2 r (by rw [hrd]; simp)
    refine next_list F5 N5 (Off.cons nI1 oIR) hli hlK (by rw [hrd]; simp) ?_
    intro h6 oI6 hli6 F6 N6
    rw [getD_refs rows dn.length r (by rw [hrd]; simp)]
    clear F5 N5 hlK
    dsimp only
    walk
    rename News g L _ _ => N7
    rename Fr g L _ _ => F7
    first | refine Exists.elim (Fr.some F7 [("keys", .ref DK), ("pairs", .ref P), ("row", .ref r.1)] ⟨rfl, rfl, rfl, trivial⟩) fun u7 F7 => ?_ | refine and_on2 (Fr.some F7 [("keys", .ref DK), ("pairs", .ref P), ("row", .ref r.1)] ⟨rfl, rfl, rfl, trivial⟩) fun u7 F7 => ?_
    refine wpAny_For ?_
    walk
    rename News g L _ _ => N8
    rename Fr g L _ _ => F8
    refine wpAny_pyIter_list (N8.isList (.tail _ (.tail _ hrm))) ?_
    refine and_on3 (led_new (o := { cls := .type "list_iterator", data := .fields #[.ref r.1, .int 0 0] }) F8 N8 rfl) fun F9 N9 ne9 => ?_
    generalize hI2 : Array.size _ = I2 at N9 ne9 ⊢
    have d1' := d1
    clear N8 F8 hI2 d1
    have nII : I ≠ I2 := ne9 (I, oI6) (.head _)
    have nI12 : L + 1 + 1 + 1 + 1 + 1 ≠ I2 := ne9 (_, c1) (.tail _ (.head _))
    have oI2R : Off I2 R := fun p hp => ne9 p (.tail _ (.tail _ hp))
    refine For_G (fun n m₁ news₁ => Ex5 fun dn2 td2 oI2 c1 k1 => r.2 = dn2 ++ td2 ∧ n = td2.length ∧ news₁ = ((I2, oI2) :: (I, oI6) :: (L + 1 + 1 + 1 + 1 + 1, c1) :: R) ∧ isLi oI2 r.1 dn2.length ∧ c1.data = .cell k1 ∧ AllIs m₁ [("keys", .ref DK), ("pairs", .ref P), ("row", .ref r.1)]) (n₀ := r.2.length) F9 N9
      (Ex5.mk ([]) (r.2) _ c1 k1 ⟨rfl, rfl, rfl, ⟨rfl, rfl⟩, d1', ⟨rfl, rfl, rfl, trivial⟩⟩) ?_
    clear F9 N9 d1' ne9 F7 c1 k1
    intro J2 Q2 hJ2 hQ2 n2 m₂ news₂ h10 tk10 F10 N10 hJJ
    refine hJJ _ fun dn2 td2 oI2 c1 k1 hAA => ?_
    refine and_on6 hAA fun hrd2 hE1 hE2 hli2 d1 hm => ?_
    clear hAA hJJ
    refine goal_G fun GG hGG => ?_
    subst hE1
    subst hE2
    refine hGG ?_
    clear hGG GG
    first | refine Exists.elim (Fr.some F10 _ hm) fun u10 F10 => ?_ | refine and_on2 (Fr.some F10 _ hm) fun u10 F10 => ?_
    clear hm
    have hlr2 := N10.isList (.tail _ (.tail _ (.tail _ hrm)))
    have off2 : Off I2 ((I, oI6) :: (L + 1 + 1 + 1 + 1 + 1, c1) :: R) := Off.cons nII (Off.cons nI12 oI2R)
    rcases td2 with _ | ⟨k, td2⟩
    · refine next_list_end rfl F10 N10 off2 hli2 hlr2 (by rw [hrd2]; simp) ?_
      intro h11 F11 N11
      refine hQ2 _ _ ?_
      clear F10 N10
      dsimp only
      walk
      refine ws_next (n' := td.length) (F11) (N11) (by simp) (hJ1 _ _ _ (Ex5.mk (dn ++ [r]) td oI6 c1 k1 ⟨by rw [hrd]; simp, rfl, rfl, by simpa using hli6, d1, ⟨rfl, rfl, trivial⟩⟩))
    · first | refine Exists.elim (hKr k (by rw [hrd2]; simp)) fun hkin hkS => ?_ | refine and_on2 (hKr k (by rw [hrd2]; simp)) fun hkin hkS => ?_
      refine next_list F10 N10 off2 hli2 hlr2 (by rw [hrd2]; simp) ?_
      intro h11 oI11 hli11 F11 N11
      rw [getD_kvs adr r.2 dn2.length (by rw [hrd2]; simp), show r.2.getD dn2.length (0, 0, 0) = k from by rw [hrd2]; simp]
      clear F10 N10 hlr2
      dsimp only
      walk
      refine storeX_C F11 N11 rfl (UpdF.tail (Ne.symm nI12) (UpdF.tail (Ne.symm nI1) (UpdF.head o1))) d1 ?_
      intro h12 c12 F12 N12 d12
      clear F11 N11
      first | refine Exists.elim (Fr.some F12 [("keys", .ref DK), ("pairs", .ref P), ("row", .ref r.1)] ⟨rfl, rfl, rfl, trivial⟩) fun u12 F12 => ?_ | refine and_on2 (Fr.some F12 [("keys", .ref DK), ("pairs", .ref P), ("row", .ref r.1)] ⟨rfl, rfl, rfl, trivial⟩) fun u12 F12 => ?_
      walk
      refine LC_eval (h₀ := g) (L := L) (m := kstB u12 [("keys", .ref DK), ("pairs", .ref P), ("row", .ref r.1)]) (by rfl) (by decide) rfl (by decide) ?_
      walk
      refine lc_src_list F12 N12 (N12.isList (.tail _ (.tail _ (.tail _ mP)))) ?_
      rintro I3 oI3 Dd C oC h13 tk13 hh F13 N13 hli3 hC nCD nCI nDI offCD offI
      clear F12 N12
      generalize hbs : ((I2, oI11) :: (I, oI6) :: (L + 1 + 1 + 1 + 1 + 1, c12) :: R : List (Addr × Obj)) = bs at N13 offCD offI ⊢
      have mc1 : (L + 1 + 1 + 1 + 1 + 1, c12) ∈ bs := by rw [← hbs]; simp
      have mt : ∀ p ∈ R, p ∈ bs := fun p hp => by rw [← hbs]; simp [hp]
      have oCb : Off C bs := fun p hp => (offCD p hp).1
      have oDb : Off Dd bs := fun p hp => (offCD p hp).2
      have nIC : I3 ≠ C := Ne.symm nCI
      have nID : I3 ≠ Dd := Ne.symm nDI
      have nDC : Dd ≠ C := Ne.symm nCD
      refine lc_loop_G (fun n news₁ => Ex6 fun dn td oC mc oI ne => pl = dn ++ td ∧ n = td.length ∧ news₁ = ((I3, oI) :: (C, oC) :: (Dd, listOf (pvs (dn.filter fun q => keyCmp .LtE q.2 k && (q.2.2.1 == k.2.1 || q.2.2.2 == k.2.2))).toArray ne) :: bs) ∧ isLi oI P dn.length ∧ NsObj oC mc)
        F13 (News.rot' N13) (Ex6.mk ([]) pl oC _ oI3 0 ⟨rfl, rfl, rfl, hli3, hC⟩) ?_
      clear F13 N13 hC hli3 oC oI3
      intro J3 R3 hJ3 hR3 n3 news₃ h14 tk14 F14 N14 hJJ
      refine hJJ _ fun dn3 td3 oC mc oI3 ne hAA => ?_
      refine and_on5 hAA fun hpd hE1 hE2 hli3 hC => ?_
      clear hAA hJJ
      refine goal_G fun GG hGG => ?_
      subst hE1
      subst hE2
      refine hGG ?_
      clear hGG GG
      have hl3' := N14.isList (.tail _ (.tail _ (.tail _ (mt _ mP))))
      rcases td3 with _ | ⟨q, td3⟩
      · refine next_list_end rfl F14 N14 (Off.cons nCI (Off.cons nDI offI)) hli3 hl3' (by rw [hpd]; simp) ?_
        intro h15 F15 N15
        refine hR3 _ _ (lcd (F15) (News.swap N15) (hC) (fun p hp => ⟨oCb p hp, oDb p hp⟩) (nCD) ?_)
        rw [List.append_nil] at hpd
        subst hpd
        clear F14 N14 F15 N15 hl3'
        intro h16 tk16 F16 N16 o16
        iterate 3 (walk1; try dsimp only)
        rename_i E1 _ F17 N17 hlt17
        refine keys_eq (ps := pl.filter fun q => keyCmp .LtE q.2 k && (q.2.2.1 == k.2.1 || q.2.2.2 == k.2.2)) (qs := []) (N17.isList (.tail _ (.head _))) (N17.isList (.head _)) ?_ (fun _ h => nomatch h) (Nat.le_of_ble_eq_true rfl) ?_
        · intro q hq
          exact PairIn.isKey N17 ((hP q (List.mem_filter.mp hq).1).sub (fun p hp => .tail _ (.tail _ (mt p hp))))
        rw [decide_eq_false (fun e => ?_)]
        rotate_left
        · refine goal_G fun GG hGG => ?_
          obtain ⟨m, hm, hsh, hle⟩ := hst.dom k hkS
          refine hGG ?_
          clear hGG GG
          refine goal_G fun GG hGG => ?_
          obtain ⟨q, hq, rfl⟩ := List.mem_map.mp hm
          refine hGG ?_
          clear hGG GG
          have hqf : q ∈ pl.filter fun q => keyCmp .LtE q.2 k && (q.2.2.1 == k.2.1 || q.2.2.2 == k.2.2) := by
            rw [List.mem_filter]
            refine ⟨hq, ?_⟩
            rw [keyCmp_le]
            have hle' : keyLt k q.2 = false := hle
            rw [hle']
            rcases hsh with h | h <;> simp [h]
          have hh := List.mem_map.mpr (⟨q, hqf, rfl⟩ : ∃ a, a ∈ (pl.filter fun q => keyCmp .LtE q.2 k && (q.2.2.1 == k.2.1 || q.2.2.2 == k.2.2)) ∧ (fun (x : AP) => x.2) a = q.2)
          rw [e] at hh
          cases hh
        refine wpAny_truthy_bool ?_
        refine ifF (by simp) ?_
        subst hbs
        walk
        rename Fr g L _ _ => F18
        rename News g L _ _ => N18
        refine ws_next (n' := td2.length) (F18) (News.sub N18 (r := (I2, oI11) :: (I, oI6) :: (L + 1 + 1 + 1 + 1 + 1, c12) :: R) (fun p hp => ?_)) (by simp) (hJ2 _ _ _ (Ex5.mk (dn2 ++ [k]) td2 oI11 c12 _ ⟨by rw [hrd2]; simp, rfl, rfl, by simpa using hli11, d12, ⟨rfl, rfl, rfl, trivial⟩⟩))
        revert p
        repeat' (first | with_reducible exact sub_nil | with_reducible exact sub_self | with_reducible exact List.mem_cons_self | with_reducible refine sub_cons ?_ ?_ | with_reducible refine sub_app ?_ ?_ | with_reducible refine List.mem_cons_of_mem _ ?_ | (with_reducible refine List.mem_append_left _ ?_; (repeat (first | with_reducible exact List.mem_cons_self | with_reducible refine List.mem_cons_of_mem _ ?_)); done) | with_reducible refine List.mem_append_right _ ?_ | with_reducible refine sub_tl ?_ | with_reducible exact sub_apl sub_self | with_reducible refine sub_apr ?_)
      · refine next_list F14 N14 (Off.cons nCI (Off.cons nDI offI)) hli3 hl3' (by rw [hpd]; simp) ?_
        intro h15 oI15 hli15 F15 N15
        rw [show (pvs pl).getD dn3.length Value.none = .ref q.1 from by rw [hpd]; simp [pvs]]
        dsimp only
        refine lc_store rfl rfl F15 (News.swap N15) hC (Off.cons nIC (Off.cons nDC oCb)) ?_
        intro oC16 h16 hC16 F16 N16
        clear F14 N14 F15 N15 hl3'
        have hq0 := hP q (by rw [hpd]; simp)
        have hkeyq : IsKey h16 q.1 q.2 := PairIn.isKey N16 (hq0.sub fun p hp => .tail _ (.tail _ (.tail _ (mt p hp))))
        have hkeyk : IsKey h16 (adr k) k := KeyIn.isKey N16 (hkin.sub fun p hp => .tail _ (.tail _ (.tail _ (mt p hp))))
        refine goal_G fun GG hGG => ?_
        obtain ⟨oq, hmq, dq, nq, slq, v1, v2, v3, rfl⟩ := hq0
        refine hGG ?_
        clear hGG GG
        have hTq : IsTup h16 q.1 [.int q.2.1 v1, .int q.2.2.1 v2, .int q.2.2.2 v3].toArray := ⟨_, (N16 _ (.tail _ (.tail _ (.tail _ (mt _ hmq))))).1, rfl, _, rfl⟩
        refine goal_G fun GG hGG => ?_
        obtain ⟨ok', hmk, dk, nk2, slk, w1, w2, w3, hko⟩ := hkin
        refine hGG ?_
        clear hGG GG
        have hTk : IsTup h16 (adr k) [.int k.1 w1, .int k.2.1 w2, .int k.2.2 w3].toArray := ⟨_, (N16 _ (.tail _ (.tail _ (.tail _ (mt _ hmk))))).1, by rw [hko], _, by rw [hko]⟩
        refine wpAny_tests_one ?_
        refine isTrue_and ?_
        iterate 1 (walk1; try dsimp only)
        refine LCgL.ld_own N16 (.head _) hC16 rfl ?_
        refine ld_cellC N16 rfl (.tail _ (.tail _ (.tail _ mc1))) d12 ?_
        refine cmp_ofLtE (tup_cmp (.inr rfl) hkeyq hkeyk (Nat.le_of_ble_eq_true rfl) ?_)
        refine wpAny_truthy_bool ?_
        have lenb := List.length_filter_le (fun q : Addr × Key => keyCmp .LtE q.2 k && (q.2.2.1 == k.2.1 || q.2.2.2 == k.2.2)) dn3
        have lenp : dn3.length ≤ pl.length := by rw [hpd]; simp
        cases hc0 : keyCmp .LtE q.2 k with
        | false =>
          simp only [Bool.false_eq_true, if_false]
          refine lcs (n' := td3.length) (F16) (News.swap N16) (by simp) (hJ3 _ _ (Ex6.mk (dn3 ++ [q]) td3 oC16 _ oI15 ne ⟨by rw [hpd]; simp, rfl, ?_, by simpa using hli15, hC16⟩))
          rw [List.filter_append, List.filter_cons, List.filter_nil, show (keyCmp .LtE q.2 k && (q.2.2.1 == k.2.1 || q.2.2.2 == k.2.2)) = false from by rw [hc0]; rfl]
          simp
        | true =>
          simp only [if_true]
          refine isTrue_and ?_
          refine isTrue_or ?_
          iterate 2 (walk1; try dsimp only)
          refine LCgL.ld_own N16 (.head _) hC16 rfl ?_
          walk1
          refine item_tupleT hTq (by decide) (by decide) rfl rfl ?_
          walk1
          refine ld_cellC N16 rfl (.tail _ (.tail _ (.tail _ mc1))) d12 ?_
          walk1
          refine item_tupleT hTk (by decide) (by decide) rfl rfl ?_
          iterate 2 (walk1; try dsimp only)
          cases hc1 : (q.2.2.1 == k.2.1) with
          | true =>
            simp only [if_true]
            refine isTrue_and_nil ?_
            simp only [if_true]
            refine LCgL.ld_own N16 (.head _) hC16 rfl ?_
            refine lc_append F16 (News.rot' N16) (Off.cons nCD (Off.cons nID oDb)) (by simp only [List.length_map]; lia) ?_
            intro h17 F17 N17
            refine lcs (n' := td3.length) (F17) (News.swap (News.rot N17)) (by simp) (hJ3 _ _ (Ex6.mk (dn3 ++ [q]) td3 oC16 _ oI15 (ne + 1) ⟨by rw [hpd]; simp, rfl, ?_, by simpa using hli15, hC16⟩))
            rw [List.filter_append, List.filter_cons, List.filter_nil, show (keyCmp .LtE q.2 k && (q.2.2.1 == k.2.1 || q.2.2.2 == k.2.2)) = true from by rw [hc0, hc1]; rfl]
            simp
          | false =>
            simp only [Bool.false_eq_true, if_false]
            refine isTrue_or ?_
            iterate 2 (walk1; try dsimp only)
            refine LCgL.ld_own N16 (.head _) hC16 rfl ?_
            walk1
            refine item_tupleT hTq (by decide) (by decide) rfl rfl ?_
            walk1
            refine ld_cellC N16 rfl (.tail _ (.tail _ (.tail _ mc1))) d12 ?_
            walk1
            refine item_tupleT hTk (by decide) (by decide) rfl rfl ?_
            iterate 2 (walk1; try dsimp only)
            cases hc2 : (q.2.2.2 == k.2.2) with
            | true =>
              simp only [if_true]
              refine isTrue_and_nil ?_
              simp only [if_true]
              refine LCgL.ld_own N16 (.head _) hC16 rfl ?_
              refine lc_append F16 (News.rot' N16) (Off.cons nCD (Off.cons nID oDb)) (by simp only [List.length_map]; lia) ?_
              intro h17 F17 N17
              refine lcs (n' := td3.length) (F17) (News.swap (News.rot N17)) (by simp) (hJ3 _ _ (Ex6.mk (dn3 ++ [q]) td3 oC16 _ oI15 (ne + 1) ⟨by rw [hpd]; simp, rfl, ?_, by simpa using hli15, hC16⟩))
              rw [List.filter_append, List.filter_cons, List.filter_nil, show (keyCmp .LtE q.2 k && (q.2.2.1 == k.2.1 || q.2.2.2 == k.2.2)) = true from by rw [hc0, hc1, hc2]; rfl]
              simp
            | false =>
              simp only [Bool.false_eq_true, if_false]
              refine isTrue_or_nil ?_
              simp only [Bool.false_eq_true, if_false]
              refine lcs (n' := td3.length) (F16) (News.swap N16) (by simp) (hJ3 _ _ (Ex6.mk (dn3 ++ [q]) td3 oC16 _ oI15 ne ⟨by rw [hpd]; simp, rfl, ?_, by simpa using hli15, hC16⟩))
              rw [List.filter_append, List.filter_cons, List.filter_nil, show (keyCmp .LtE q.2 k && (q.2.2.1 == k.2.1 || q.2.2.2 == k.2.2)) = false from by rw [hc0, hc1, hc2]; rfl]
              simp
end
section
theorem law_13 {w : World} {g : Heap} {L fa : Addr} {cd : Value} {s : Shared} {p : Program} {loose : List Str} {mean : ExcName → Option Value} {mg mb : Str → Option Value} {Q : Flow → Shared → Prop} {u : Str → Option Value} {R : List (Addr × Obj)} {l : Lex} {ln : Int} {tl tn : Tok} {n nn np : Nat} {c3 : Obj}
    (B : Below callerA g [] g) (F : Fr g L s.heap (kstB u [])) (X₀ : (Mine.hd.heap_1 w.params).In g) (T : Top p loose mean mg mb g) (N : News g L s.heap (l.led w ln tl n tn nn [] np ++ R)) 
    (m3 : (L + 1 + 1 + 1, c3) ∈ R) (d3 : c3.data = .cell (some (.ref l.lx)))
    (h : ∀ h' tk' u', Fr g L h' (kstB u' []) → News g L h' R → Q (.ret (.bool true)) { s with heap := h', toks := tk' }) :
    wpAny (model PySem.Challenge.rw_pg0112_01.row.prog w) (callerA.deeper (envOfC "law" lawS L fa cd)) (execs (lawB.drop 12) (envOfC "law" lawS L fa cd)) Q noE s := by
  have eS : lawS = lawS := rfl
  conv at eS => rhs; whnf
  have eB : lawB = lawB := rfl
  conv at eB => rhs; whnf
  rw [eB] at ⊢
  rw [eS] at ⊢
  dsimp only [List.drop] at ⊢
  clear eB eS
  revert X₀; k_fill; intro X₀
  have N1 : News g L s.heap ((L + 1 + 1 + 1, c3) :: (l.pb, listOf #[] np) :: (l.lx, instObj 87 l.dl) :: (l.dl, dictOf (l.es w ln tl) 4) :: R) := News.sub N fun p hp => by
    simp only [List.mem_cons, List.mem_append] at hp ⊢
    rcases hp with h | h | h | h | h <;> simp [h, m3]
  simp only [Lex.es] at N1
  clear N
  walk1
  walk
  rename Fr g L _ _ => F9
  rename News g L _ _ => N9
  exact h _ _ _ F9 (News.sub N9 fun p hp => by simp [hp])
end
section
theorem News.uniq {h₀ h : Heap} {L : Addr} {X : List (Addr × Obj)} (N : News h₀ L h X) {p q : Addr × Obj} (hp : p ∈ X) (hq : q ∈ X) (e : p.1 = q.1) : p.2 = q.2 := by
  have a := (N p hp).1
  have b := (N q hq).1
  rw [e] at a
  rw [a] at b
  exact Option.some.inj b
theorem tblN_I (dr : List Int) : ∀ i, i < 4 → ∀ j, j < 3 → (tblN dr i j).2.1 = (i : Int) := fun _ _ _ _ => rfl
theorem tblN_J (dr : List Int) : ∀ i, i < 4 → ∀ j, j < 3 → (tblN dr i j).2.2 = (j : Int) := fun _ _ _ _ => rfl
theorem drawn_bd (xs : List Int) : (drawnOf xs).length = 7 ∧ ∀ x ∈ drawnOf xs, 0 ≤ x ∧ x < 288 := by
  unfold drawnOf
  have hl : (xs.take 7).length ≤ 7 := by rw [List.length_take]; lia
  constructor
  · rw [List.length_append, List.length_map, List.length_drop]
    simp only [List.length_cons, List.length_nil]
    lia
  · intro x hx
    rcases List.mem_append.mp hx with h | h
    · obtain ⟨y, _, rfl⟩ := List.mem_map.mp h
      lia
    · have : x ∈ ([5, 164, 236, 69, 40, 194, 126] : List Int) := List.mem_of_mem_drop h
      simp only [List.mem_cons, List.not_mem_nil, or_false] at this
      lia
theorem lists_ne {a b : Array Value} {n m : Nat} (h : a.size ≠ b.size) : listOf a n ≠ listOf b m := fun e => by
  injection e with _ _ e
  injection e with e _
  exact h (by rw [e])
theorem keyObj_list {o : Obj} {k : Key} {b : Array Value} {n : Nat} (h : keyObj o k) : o ≠ listOf b n := by
  obtain ⟨d, m, sl, t1, t2, t3, rfl⟩ := h
  intro e
  injection e with e
  injection e with e
  exact absurd e (by decide)
theorem keyObj_dict {o : Obj} {k : Key} {es : List DictEntry} {n : Nat} (h : keyObj o k) : o ≠ dictOf es n := by
  obtain ⟨d, m, sl, t1, t2, t3, rfl⟩ := h
  intro e
  injection e with _ _ e
  cases e
theorem list_dict {b : Array Value} {n m : Nat} {es : List DictEntry} : listOf b n ≠ dictOf es m := fun e => by
  injection e with _ _ e
  cases e
theorem cell_list {o : Obj} {k : Option Value} {b : Array Value} {n : Nat} (h : o.data = .cell k) : o ≠ listOf b n := fun e => by rw [e] at h; cases h
theorem cell_dict {o : Obj} {k : Option Value} {es : List DictEntry} {n : Nat} (h : o.data = .cell k) : o ≠ dictOf es n := fun e => by rw [e] at h; cases h
theorem cell_key {o o' : Obj} {k : Option Value} {q : Key} (h : o.data = .cell k) (h' : keyObj o' q) : o' ≠ o := fun e => by
  obtain ⟨d, m, sl, t1, t2, t3, rfl⟩ := h'
  rw [← e] at h; cases h
/-- one entry taken apart from the rest -/
theorem News.split1 {g h : Heap} {L : Addr} {Z : List (Addr × Obj)} {a : Addr} {o : Obj} {G : Prop} (N : News g L h Z) (ha : (a, o) ∈ Z)
    (k : ∀ R, News g L h ((a, o) :: R) → Off a R → (∀ p ∈ R, p ∈ Z) → (∀ p ∈ Z, p.1 ≠ a → p ∈ R) → G) : G :=
  k (Z.filter fun p => decide (p.1 ≠ a)) (News.sub N fun _ hp => (List.mem_cons.mp hp).elim (fun e => e ▸ ha) fun h => (List.mem_filter.mp h).1)
    (fun _ hp => of_decide_eq_true (List.mem_filter.mp hp).2) (fun _ hp => (List.mem_filter.mp hp).1) fun _ hp hne => List.mem_filter.mpr ⟨hp, decide_eq_true hne⟩
/-- the law's body, whole -/
theorem law_all {w : World} {g : Heap} {L fa : Addr} {cd : Value} {s : Shared} {p : Program} {loose : List Str} {mean : ExcName → Option Value} {mg mb : Str → Option Value} {Q : Flow → Shared → Prop} {sc : Addr} {vs : List Value} {xs : List Int} {cells : List (Addr × Obj)}
    (B : Below callerA g [] g) (F : Fr g L s.heap (bindL (envOfC "law" lawS L fa cd).kindOf [("script", .ref sc)] fun _ => none)) (X₀ : (Mine.hd.heap_1 w.params).In g) (T : Top p loose mean mg mb g) (C : CodeHd g 97 93)
    (N : News g L s.heap (cells ++ [(93, tabObj #[])])) (Y : CellsAre (bindC (envOfC "law" lawS L fa cd).kindOf [("script", .ref sc)] fun _ => none) (cellsFrom (L + 1) lawS.names []) cells) (l93 : 93 < L) (hl : g.IsList sc vs.toArray) (hI : IntsAre vs xs) (hx63 : xs.length ≤ 63)
    (hQ : ∀ h' tk' m', Fr g L h' m' → GrownAt 93 h' → Q (.ret (.bool true)) { s with heap := h', toks := tk' }) :
    wpAny (model PySem.Challenge.rw_pg0112_01.row.prog w) (callerA.deeper (envOfC "law" lawS L fa cd)) (execs lawB (envOfC "law" lawS L fa cd)) Q noE s := by
  obtain ⟨h7, hdr⟩ := drawn_bd xs
  refine law_1 B F X₀ T N Y l93 hl hI hx63 ?_
  clear F N Y
  intro ha1 tk1 u1 DR us n c1 c2 c3 c4 c5 k1 k2 k3 k4 F1 N1 lDR d1 d2 d3 d4 d5 hus
  generalize drawnOf xs = dr at h7 hdr hus
  obtain ⟨u1', F1⟩ := Fr.some F1 [] trivial
  have l93' : @LT.lt Nat _ 93 L := l93
  have lDR' : @LT.lt Nat _ (L + 5) DR := lDR
  have oDR : ∀ x ∈ cellsA L, x ≠ DR := by
    intro x hx
    simp only [List.mem_cons, List.not_mem_nil, or_false] at hx
    rcases hx with rfl | rfl | rfl | rfl | rfl | rfl <;> exact Nat.ne_of_lt (by lia)
  refine law_2 (s := { s with heap := ha1, toks := tk1 }) B F1 X₀ T N1 l93 oDR d4 d5 hus h7 hdr ?_
  clear F1 N1 d4
  intro ha2 tk2 u2 DW ws nw c4' F2 N2 oDW d4 hws
  refine law_3 (s := { s with heap := ha2, toks := tk2 }) B F2 X₀ T N2 d4 d5 hus hws h7 hdr ?_
  clear F2 N2
  intro ha3 tk3 u3 tt F3 N3
  refine law_4 (s := { s with heap := ha3, toks := tk3 }) B F3 X₀ T C l93 N3 oDR oDW d3 ?_
  clear F3 N3 d3
  intro ha4 tk4 u4 c3' l ps tl tn F4 N4 ok hlt d3
  have m1 : (L + 1 + 1 + 1 + 1 + 1, c1) ∈ lawR L DW DR us ws n nw c1 c2 c3' c4' c5 ps := (by repeat' (first | with_reducible exact List.mem_cons_self | with_reducible refine List.mem_cons_of_mem _ ?_))
  have m3 : (L + 1 + 1 + 1, c3') ∈ lawR L DW DR us ws n nw c1 c2 c3' c4' c5 ps := (by repeat' (first | with_reducible exact List.mem_cons_self | with_reducible refine List.mem_cons_of_mem _ ?_))
  have m2 : (L + 1 + 1 + 1 + 1, c2) ∈ lawR L DW DR us ws n nw c1 c2 c3' c4' c5 ps := (by repeat' (first | with_reducible exact List.mem_cons_self | with_reducible refine List.mem_cons_of_mem _ ?_))
  have m4 : (L + 1 + 1, c4') ∈ lawR L DW DR us ws n nw c1 c2 c3' c4' c5 ps := (by repeat' (first | with_reducible exact List.mem_cons_self | with_reducible refine List.mem_cons_of_mem _ ?_))
  have m5 : (L + 1, c5) ∈ lawR L DW DR us ws n nw c1 c2 c3' c4' c5 ps := (by repeat' (first | with_reducible exact List.mem_cons_self | with_reducible refine List.mem_cons_of_mem _ ?_))
  have mW : (DW, listOf ws.toArray nw) ∈ lawR L DW DR us ws n nw c1 c2 c3' c4' c5 ps := (by repeat' (first | with_reducible exact List.mem_cons_self | with_reducible refine List.mem_cons_of_mem _ ?_))
  have mR : (DR, listOf us.toArray n) ∈ lawR L DW DR us ws n nw c1 c2 c3' c4' c5 ps := (by repeat' (first | with_reducible exact List.mem_cons_self | with_reducible refine List.mem_cons_of_mem _ ?_))
  have m93 : (93, tabObj ps) ∈ lawR L DW DR us ws n nw c1 c2 c3' c4' c5 ps := (by repeat' (first | with_reducible exact List.mem_cons_self | with_reducible refine List.mem_cons_of_mem _ ?_))
  generalize lawR L DW DR us ws n nw c1 c2 c3' c4' c5 ps = RR at N4 hlt m1 m2 m3 m4 m5 mW mR m93
  have l5 : L + 1 + 1 + 1 + 1 + 1 < l.ct := hlt _ m1
  refine law_5 (s := { s with heap := ha4, toks := tk4 }) B F4 X₀ T N4 ok hlt m3 d3 h7 hdr ?_
  clear F4 N4 tl tn hlt
  intro ha5 tk5 u5 DT ts5 nt tl tn n' F5 N5 o5 hn' hdrop hts5
  have ge := fun nf => ok.geCt (w := w) (ln := 1 + linesN dr 7) (tl := tl) (tn := tn) (n := nf) (nn := 0) (np := 0) (pbs := [])
  have gD := ge n' (l.dl, dictOf (l.es w (1 + linesN dr 7) tl) 4) (.tail _ (.tail _ (.head _)))
  generalize hLED : l.led w (1 + linesN dr 7) tl n' tn 0 [] 0 = LED at N5 o5
  refine law_6 (s := { s with heap := ha5, toks := tk5 }) B F5 X₀ T N5 (.head _) (.tail _ (List.mem_append_right _ mW)) (.tail _ (List.mem_append_right _ m3)) (.tail _ (List.mem_append_right _ m4)) (.tail _ (List.mem_append_left _ (by rw [← hLED]; exact .tail _ (.head _)))) (.tail _ (List.mem_append_left _ (by rw [← hLED]; exact .tail _ (.tail _ (.head _))))) d3 d4 h7 hdr hts5 hws ?_
  clear F5 N5 o5 hts5
  intro ha6 tk6 u6 F6 N6
  refine News.split1 (News.drop1 N6) (List.mem_append_right _ m2) fun R6 N6 o6 _ k6 => ?_
  have kR : ∀ p ∈ RR, p.1 ≠ L + 1 + 1 + 1 + 1 → p ∈ R6 := fun p hp => k6 p (List.mem_append_right _ hp)
  have sLED : ∀ p ∈ LED, p ∈ R6 := fun p hp => k6 p (List.mem_append_left _ hp) (Nat.ne_of_gt (Nat.lt_of_lt_of_le (Nat.lt_of_succ_lt l5) (ge n' p (hLED ▸ hp))))
  replace m1 := kR _ m1 (Nat.ne_of_gt (Nat.lt_succ_self _))
  replace m3 := kR _ m3 (Nat.ne_of_lt (Nat.lt_succ_self _))
  replace m4 := kR _ m4 (Nat.ne_of_lt (Nat.lt_succ_of_lt (Nat.lt_succ_self _)))
  replace m5 := kR _ m5 (Nat.ne_of_lt (Nat.lt_succ_of_lt (Nat.lt_succ_of_lt (Nat.lt_succ_self _))))
  replace mW := kR _ mW (Ne.symm (oDW (L + 1 + 1 + 1 + 1) (by repeat' (first | with_reducible exact List.mem_cons_self | with_reducible refine List.mem_cons_of_mem _ ?_))))
  replace mR := kR _ mR (Ne.symm (oDR (L + 1 + 1 + 1 + 1) (by repeat' (first | with_reducible exact List.mem_cons_self | with_reducible refine List.mem_cons_of_mem _ ?_))))
  replace m93 := kR _ m93 (Nat.ne_of_lt (Nat.lt_trans l93' (Nat.lt_succ_of_lt (Nat.lt_succ_of_lt (Nat.lt_succ_of_lt (Nat.lt_succ_self _))))))
  clear k6 kR m2 oDR oDW
  refine law_7 (s := { s with heap := ha6, toks := tk6 }) B F6 X₀ T N6 o6 mW m4 d2 d4 h7 hdr hws ?_
  clear F6 N6 d2 o6
  intro ha7 tk7 u7 DH hs nh c2' F7 N7 _ d2 hhs
  refine law_8 (s := { s with heap := ha7, toks := tk7 }) B F7 X₀ T N7 (.head _) (.tail _ (.head _)) (.tail _ (.tail _ m5)) (.tail _ (.tail _ mR)) d2 d5 h7 hus hhs ?_
  clear F7 N7
  intro ha8 tk8 u8 F8 N8
  refine law_9 (s := { s with heap := ha8, toks := tk8 }) B F8 X₀ T N8 (.head _) (.tail _ (.head _)) d2 h7 hhs ?_
  clear F8 N8
  intro ha9 tk9 u9 DK nk rws ts F9 N9 _ _ hrw
  obtain ⟨a0, a1, a2, a3, adr, eK, hrows, hkeys⟩ := rows_facts (tblN_I dr) (tblN_J dr) hrw
  rw [eK] at N9
  have tbI := tblN_I dr
  have tbJ := tblN_J dr
  generalize tblN dr = tbl at tbI tbJ hrows hkeys hrw N9
  generalize hR9 : ((DK, listOf ((rowsOf tbl a0 a1 a2 a3).map fun r => Value.ref r.1).toArray nk) :: (ts ++ ((DH, listOf hs.toArray nh) :: (L + 1 + 1 + 1 + 1, c2') :: R6))) = R9 at N9
  have mK : (DK, listOf ((rowsOf tbl a0 a1 a2 a3).map fun r => Value.ref r.1).toArray nk) ∈ R9 := hR9 ▸ .head _
  have mT : ∀ p ∈ ts, p ∈ R9 := fun p hp => hR9 ▸ .tail _ (List.mem_append_left _ hp)
  have m6 : ∀ p ∈ R6, p ∈ R9 := fun p hp => hR9 ▸ .tail _ (List.mem_append_right _ (.tail _ (.tail _ hp)))
  have mL : ∀ p ∈ LED, p ∈ R9 := fun p hp => m6 p (sLED p hp)
  refine law_10 (s := { s with heap := ha9, toks := tk9 }) (rows := rowsOf tbl a0 a1 a2 a3) (adr := adr) B F9 X₀ T N9 ⟨nk, mK⟩ (fun r hr => ?_) (fun r hr k hk => (hkeys r hr k hk).sub mT) rfl ?_
  · obtain ⟨m, hm⟩ := hrows r hr
    exact ⟨m, mT _ hm⟩
  clear F9 N9
  intro ha10 tk10 u10 P pl nP tl10 F10 N10 _ hP hpl _
  have hall : (rowsOf tbl a0 a1 a2 a3).flatMap (·.2) = allK tbl := rfl
  rw [hall] at hpl
  obtain ⟨_, _, _, _, _, _, _, _, _, _, hst, hlen⟩ := ways a0 a1 a2 a3 tbI tbJ
  have hpl3 : pl.length = 3 := by rw [← hlen, ← hpl, List.length_map]
  generalize hX : ((P, listOf (pvs pl).toArray nP) :: (tl10 ++ R9)) = X at N10
  have mP : (P, listOf (pvs pl).toArray nP) ∈ X := by rw [← hX]; exact .head _
  have mt10 : ∀ p ∈ tl10, p ∈ X := fun p hp => by rw [← hX]; exact .tail _ (List.mem_append_left _ hp)
  have m9 : ∀ p ∈ R9, p ∈ X := fun p hp => by rw [← hX]; exact .tail _ (List.mem_append_right _ hp)
  have mpb : (l.pb, listOf ([] : List Value).toArray 0) ∈ X := m9 _ (mL _ (by rw [← hLED]; exact .head _))
  have mdl : (l.dl, dictOf (l.es w (1 + linesN dr 7) tl) 4) ∈ X := m9 _ (mL _ (by rw [← hLED]; exact .tail _ (.tail _ (.head _))))
  have mat : (l.at0, listOf #[.int n' tn] 0) ∈ X := m9 _ (mL _ (by rw [← hLED]; exact .tail _ (.tail _ (.tail _ (.tail _ (.tail _ (.tail _ (.tail _ (.head _)))))))))
  -- what is kept beside the lexer
  have keep : ∀ p ∈ X, p.2 ≠ dictOf (l.es w (1 + linesN dr 7) tl) 4 → p.2 ≠ listOf #[.int n' tn] 0 → p.2 ≠ listOf ([] : List Value).toArray 0 → p ∈ X.filter (fun p => decide (p.1 ≠ l.dl ∧ p.1 ≠ l.at0 ∧ p.1 ≠ l.pb)) := by
    intro p hp h1 h2 h3
    rw [List.mem_filter]
    exact ⟨hp, decide_eq_true ⟨fun e => h1 (News.uniq N10 hp mdl e), fun e => h2 (News.uniq N10 hp mat e), fun e => h3 (News.uniq N10 hp mpb e)⟩⟩
  have keepL : ∀ (a : Addr) (b : Array Value) (m : Nat), 2 ≤ b.size → (a, listOf b m) ∈ X → (a, listOf b m) ∈ X.filter (fun p => decide (p.1 ≠ l.dl ∧ p.1 ≠ l.at0 ∧ p.1 ≠ l.pb)) :=
    fun a b m hb hm => keep _ hm list_dict (lists_ne (by simp only [List.size_toArray, List.length_cons, List.length_nil]; lia)) (lists_ne (by simp only [List.size_toArray, List.length_nil]; lia))
  have keepK : ∀ (a : Addr) (o : Obj) (k : Key), keyObj o k → (a, o) ∈ X → (a, o) ∈ X.filter (fun p => decide (p.1 ≠ l.dl ∧ p.1 ≠ l.at0 ∧ p.1 ≠ l.pb)) :=
    fun a o k hk hm => keep _ hm (keyObj_dict hk) (keyObj_list hk) (keyObj_list hk)
  have keepC : ∀ (a : Addr) (o : Obj) (k : Option Value), o.data = .cell k → (a, o) ∈ X → (a, o) ∈ X.filter (fun p => decide (p.1 ≠ l.dl ∧ p.1 ≠ l.at0 ∧ p.1 ≠ l.pb)) :=
    fun a o k hk hm => keep _ hm (cell_dict hk) (cell_list hk) (cell_list hk)
  have off : ∀ p ∈ X.filter (fun p => decide (p.1 ≠ l.dl ∧ p.1 ≠ l.at0 ∧ p.1 ≠ l.pb)), p.1 ≠ l.dl ∧ p.1 ≠ l.at0 ∧ p.1 ≠ l.pb := fun p hp => of_decide_eq_true (List.mem_filter.mp hp).2
  have sub : ∀ p ∈ X.filter (fun p => decide (p.1 ≠ l.dl ∧ p.1 ≠ l.at0 ∧ p.1 ≠ l.pb)), p ∈ X := fun p hp => (List.mem_filter.mp hp).1
  generalize X.filter (fun p => decide (p.1 ≠ l.dl ∧ p.1 ≠ l.at0 ∧ p.1 ≠ l.pb)) = R at keep keepL keepK keepC off sub
  have rK : (DK, listOf ((rowsOf tbl a0 a1 a2 a3).map fun r => Value.ref r.1).toArray nk) ∈ R := keepL _ _ _ (show 2 ≤ 4 by decide) (m9 _ mK)
  have rR : ∀ r ∈ rowsOf tbl a0 a1 a2 a3, ∃ n, (r.1, listOf (kvs adr r.2).toArray n) ∈ R := fun r hr => by
    obtain ⟨m, hm⟩ := hrows r hr
    refine ⟨m, keepL _ _ _ ?_ (m9 _ (mT _ hm))⟩
    simp only [rowsOf, List.mem_cons, List.not_mem_nil, or_false] at hr
    rcases hr with rfl | rfl | rfl | rfl <;> (show 2 ≤ 3; decide)
  have rKey : ∀ r ∈ rowsOf tbl a0 a1 a2 a3, ∀ k ∈ r.2, KeyIn R adr k := fun r hr k hk => by
    obtain ⟨o, ho, hko⟩ := hkeys r hr k hk
    exact ⟨o, keepK _ _ _ hko (m9 _ (mT _ ho)), hko⟩
  have rP : (P, listOf (pvs pl).toArray nP) ∈ R := keepL _ _ _ (by simp only [List.size_toArray, List.length_map]; lia) mP
  have rPl : ∀ q ∈ pl, PairIn R q := fun q hq => by
    obtain ⟨o, ho, hko⟩ := hP q hq
    exact ⟨o, keepK _ _ _ hko (mt10 _ ho), hko⟩
  have r3 : (L + 1 + 1 + 1, c3') ∈ R := keepC _ _ _ d3 (m9 _ (m6 _ m3))
  have r1 : (L + 1 + 1 + 1 + 1 + 1, c1) ∈ R := keepC _ _ _ d1 (m9 _ (m6 _ m1))
  have r93 : (93, tabObj ps) ∈ R := keep _ (m9 _ (m6 _ m93)) (fun e => by injection e with e; cases e) (fun e => by injection e with e; cases e) (fun e => by injection e with e; cases e)
  refine law_11 (s := { s with heap := ha10, toks := tk10 }) (tbl := tbl) (a0 := a0) (a1 := a1) (a2 := a2) (a3 := a3) (adr := adr) (R := R) (l := l) (tx := ⟨(textN dr).toArray⟩) (ln := 1 + linesN dr 7) (tl := tl) (n := n') (tn := tn) (nn := 0) (np := 0) B F10 X₀ T (News.sub N10 fun p hp => ?_) ok off hn' ?_ (lines_bd dr 7 h7) hdrop ⟨nk, rK⟩ rR rKey tbI tbJ r3 d3 rP rPl hpl ?_
  · rcases List.mem_append.mp hp with h | h
    · exact m9 _ (mL _ (by rw [← hLED]; exact h))
    · exact sub _ h
  · exact text_bd h7 hdr
  clear F10 N10 mpb mdl mat keep keepL keepK keepC
  intro ha11 tk11 u11 tl11 n11 tn11 np11 F11 N11
  have ge := ok.geCt (w := w) (ln := 1 + linesN dr 7) (tl := tl11) (tn := tn11) (n := n11) (nn := 0) (np := np11) (pbs := [])
  generalize hY : l.led w (1 + linesN dr 7) tl11 n11 tn11 0 [] np11 ++ R = Y at N11
  have yR : ∀ p ∈ R, p ∈ Y := fun p hp => by rw [← hY]; exact List.mem_append_right _ hp
  have keep : ∀ p ∈ Y, p.2 ≠ c1 → p ∈ Y.filter (fun p => decide (p.1 ≠ L + 1 + 1 + 1 + 1 + 1)) := by
    intro p hp h1
    rw [List.mem_filter]
    exact ⟨hp, decide_eq_true fun e => h1 (News.uniq N11 hp (yR _ r1) e)⟩
  have keepL : ∀ (a : Addr) (b : Array Value) (m : Nat), (a, listOf b m) ∈ R → (a, listOf b m) ∈ Y.filter (fun p => decide (p.1 ≠ L + 1 + 1 + 1 + 1 + 1)) :=
    fun a b m hm => keep _ (yR _ hm) (Ne.symm (cell_list d1))
  have keepK : ∀ (a : Addr) (o : Obj) (k : Key), keyObj o k → (a, o) ∈ R → (a, o) ∈ Y.filter (fun p => decide (p.1 ≠ L + 1 + 1 + 1 + 1 + 1)) :=
    fun a o k hk hm => keep _ (yR _ hm) (cell_key d1 hk)
  have q3 : (L + 1 + 1 + 1, c3') ∈ Y.filter (fun p => decide (p.1 ≠ L + 1 + 1 + 1 + 1 + 1)) := by
    rw [List.mem_filter]
    exact ⟨yR _ r3, decide_eq_true (Nat.ne_of_lt (by lia))⟩
  have q93 : (93, tabObj ps) ∈ Y.filter (fun p => decide (p.1 ≠ L + 1 + 1 + 1 + 1 + 1)) := by
    rw [List.mem_filter]
    exact ⟨yR _ r93, decide_eq_true (Nat.ne_of_lt (by lia))⟩
  have qL : ∀ p ∈ l.led w (1 + linesN dr 7) tl11 n11 tn11 0 [] np11, p ∈ Y.filter (fun p => decide (p.1 ≠ L + 1 + 1 + 1 + 1 + 1)) := fun p hp => by
    rw [List.mem_filter]
    exact ⟨by rw [← hY]; exact List.mem_append_left _ hp, decide_eq_true (Nat.ne_of_gt (Nat.lt_of_lt_of_le l5 (ge p hp)))⟩
  have off1 : Off (L + 1 + 1 + 1 + 1 + 1) (Y.filter (fun p => decide (p.1 ≠ L + 1 + 1 + 1 + 1 + 1))) := fun p hp => of_decide_eq_true (List.mem_filter.mp hp).2
  have sub1 : ∀ p ∈ Y.filter (fun p => decide (p.1 ≠ L + 1 + 1 + 1 + 1 + 1)), p ∈ Y := fun p hp => (List.mem_filter.mp hp).1
  generalize Y.filter (fun p => decide (p.1 ≠ L + 1 + 1 + 1 + 1 + 1)) = R2 at keep keepL keepK q3 q93 qL off1 sub1
  refine law_12 (s := { s with heap := ha11, toks := tk11 }) (rows := rowsOf tbl a0 a1 a2 a3) (adr := adr) (S := allK tbl) (R := R2) B F11 X₀ T (News.sub N11 fun p hp => ?_) off1 d1 ⟨nk, keepL _ _ _ rK⟩ (fun r hr => ?_) (fun r hr k hk => ⟨?_, ?_⟩) ⟨(show 4 < 100 by decide), fun r hr => ?_⟩ (keepL _ _ _ rP) (fun q hq => ?_) (by lia) (by rw [hpl]; exact hst) ?_
  · rcases List.mem_cons.mp hp with rfl | hp
    · exact yR _ r1
    · exact sub1 _ hp
  · obtain ⟨m, hm⟩ := rR r hr
    exact ⟨m, keepL _ _ _ hm⟩
  · obtain ⟨o, ho, hko⟩ := rKey r hr k hk
    exact ⟨o, keepK _ _ _ hko ho, hko⟩
  · rw [← hall]; exact List.mem_flatMap.mpr ⟨r, hr, hk⟩
  · simp only [rowsOf, List.mem_cons, List.not_mem_nil, or_false] at hr
    rcases hr with rfl | rfl | rfl | rfl <;> (show 3 < 100; decide)
  · obtain ⟨o, ho, hko⟩ := rPl q hq
    exact ⟨o, keepK _ _ _ hko ho, hko⟩
  clear F11 N11
  intro ha12 tk12 u12 c12 F12 N12
  refine law_13 (s := { s with heap := ha12, toks := tk12 }) (R := R2) (l := l) (ln := 1 + linesN dr 7) (tl := tl11) (n := n11) (tn := tn11) (nn := 0) (np := np11) B F12 X₀ T (News.sub N12 fun p hp => ?_) q3 d3 (fun h' tk' _ F13 N13 => hQ h' tk' _ F13 (GrownAt.of N13 q93))
  rcases List.mem_append.mp hp with h | h
  · exact .tail _ (qL p h)
  · exact .tail _ h
end
end Mine
theorem PySem.Challenge.cw_pg0112_01_holds : PySem.Challenge.rw_pg0112_01.Holds := by
  w_on
  o_law
  refine PySem.W.holds_open (q := Mine.hd.view_1) (loose := []) (Xt := fun s => xlAt Mine.hd.view_1 [] s && recOk (RowW.records Mine.lawRow.toRowW) s) (XP := XL Mine.hd.view_1 [])
    (YP := Hook.says (kmHook Mine.hd.heap_1 Mine.asK (fun _ => by kernel_rfl) [93])) (N := 1628) Mine.left (Hook.of _) (Hook.keeps _)
    (fun s e => xl_of s (Bool.and_eq_true_iff.mp e).1) XL.keeps (by rfl) (by rfl) (by rfl) (fun s e => recFacts_of (Bool.and_eq_true_iff.mp e).2) (by rfl) (by assumption) Mine.ok0 Mine.bare0 Mine.wit0 ?_
  k_go0
  rename CellsAre _ _ _ => Y
  rename Below _ _ _ _ => B
  rename IntsAre _ _ => hI
  rename CodeHd _ _ _ => C
  rename Fr _ _ _ _ => F
  rename News _ _ _ _ => N
  rename 93 < _ => l93
  refine wpAny_mono (E := Mine.noE) (Mine.law_all (sc := _) B F (by assumption) (by assumption) C N Y l93 (by assumption) hI (by lia) ?hq) (fun _ _ h => h) (fun _ _ e => e.elim)
  intro h' tk' m' F9 hG
  refine ⟨goodW_bool F9 (by assumption) (raisesW_false ?ra) ?po, hG, True.intro⟩
  case ra => wrow_none_raised
  case po => wrow_post
