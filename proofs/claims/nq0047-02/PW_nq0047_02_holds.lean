import PyProof.Rows.All
import Wide.All
import OpenK.AllK
import Wide.FinOn
import PyProof.ExcAttrAll.IndexError
import PySem.Challenge.RW_nq0047_02
set_option rowWalk.seconds 0
section
open PySem PySem.W PyProof.Rows
set_option Elab.async false
set_option maxRecDepth 100000
set_option maxHeartbeats 8000000
namespace Mine
theorem lt_of_add {a b k : Nat} (h : a + k < b) : a < b := Nat.lt_of_le_of_lt (Nat.le_add_right _ _) h
theorem top_names : opening PySem.Challenge.rw_nq0047_02.row.toRowW.1 = plainProg PySem.Challenge.rw_nq0047_02.row.toRowW.1.main.scope.names := by kernel_rfl
theorem top_fence (s : Shared) : fenceModules? PySem.Challenge.rw_nq0047_02.row.toRowW.1 s = some s := by kernel_rfl
theorem said : PySem.Challenge.rw_nq0047_02.wellSaid = true := by
  unfold OpenLaw.wellSaid OpenRow.wellSaid OpenRow.partSaid looksOpen
  repeat' with_reducible refine look_both ?_ ?_
  all_goals decide +kernel
/-- the text behind the opening, run and seen at once -/
theorem top_left {p : Program} (e : opening p = plainProg p.main.scope.names) (f : ∀ s, fenceModules? p s = some s) {q : Program} {loose : List Str} {Xt : Shared → Bool} {α : Type} {Yf : Shared → α} {Ya : World → α} {N : Nat}
    (h : ∀ w : World, (fun os => (topFrom treeTable p w (N + 600) ⟨boot_heap w.params, Array.mk [], boot_drawn, boot_toks, os⟩).map
      (fun s => (openSeen q loose (importedModules p.main.body) Xt true s, Yf s))) = fun _ => some (openGood q loose, Ya w)) :
    LeftO p q loose Xt Yf Ya (N + 600) := fun w => by
  have h0 := boot_open e (Nat.ble_eq_true_of_le (Nat.le_add_left 600 N)) f w
  revert h0
  have h' := h w
  revert h'
  generalize boot_heap w.params = H
  generalize boot_toks = k
  generalize boot_drawn = d
  intro h' h0
  obtain ⟨⟨hp, gs, dr, tk, os⟩, h1, h2⟩ := Option.map_eq_some_iff.mp h0
  simp only [Prod.mk.injEq] at h2
  obtain ⟨rfl, rfl, rfl, rfl⟩ := h2
  unfold openEnds
  rw [h1]
  exact congrFun h' os
end Mine
set_option linter.defProp false in
/-- the head's theorem for this text, with 'left' said of what lies behind the opening -/
def Mine.PySem.W.holds_open {q : Program} {loose : List Str} {Xt : Shared → Bool} {XP : (Str → Option Value) → Heap → Prop} {α : Type} {Yf : Shared → α} {Ya : World → α} {YP : World → Heap → Prop} {d : DefRec} {kwd : List (Str × Expr)} {N : Nat}
    (left : ∀ w : World, (fun os => (topFrom treeTable PySem.Challenge.rw_nq0047_02.row.toRowW.1 w (N + 600) ⟨boot_heap w.params, Array.mk [], boot_drawn, boot_toks, os⟩).map
      (fun s => (openSeen q loose (importedModules PySem.Challenge.rw_nq0047_02.row.toRowW.1.main.body) Xt true s, Yf s))) = fun _ => some (openGood q loose, Ya w)) :=
  fun hY hYk hX hXk hdef hp hk hRf hwr (_ : True) => @_root_.PySem.W.holds_open PySem.Challenge.rw_nq0047_02.row q loose Xt XP α Yf Ya YP d kwd (N + 600) (Mine.top_left Mine.top_names Mine.top_fence left) hY hYk hX hXk hdef hp hk hRf hwr (row_said Mine.said)
namespace Mine
open_top hd for PySem.Challenge.rw_nq0047_02.row
end Mine
end
open PySem PySem.W PyProof.Rows PySem.Calls
local macro_rules | `(tactic| walk_at $s:str) => `(tactic| k_extra $s)
local macro_rules | `(tactic| k_room) => `(tactic| ((try simp only [depth_under_make, depth_under_kw, depth_in1, depth_deeper, depth_caller, recursionLimit]); omega))
local macro_rules | `(tactic| k_all) => `(tactic| assumption)
local macro_rules | `(tactic| k_ne) => `(tactic| first | assumption | exact Ne.symm (by assumption) | (refine neN ?_; (try dsimp only); first | with_reducible exact Nat.ne_of_lt (by first | with_reducible assumption | with_reducible exact And.left (by with_reducible assumption) | with_reducible exact And.right (by with_reducible assumption) | with_reducible exact And.left (And.right (by with_reducible assumption)) | with_reducible exact And.right (And.right (by with_reducible assumption)) | with_reducible exact And.left (And.right (And.right (by with_reducible assumption))) | with_reducible exact And.right (And.right (And.right (by with_reducible assumption))) | with_reducible exact And.left (And.right (And.right (And.right (by with_reducible assumption)))) | with_reducible exact And.right (And.right (And.right (And.right (by with_reducible assumption)))) | with_reducible exact And.left (And.right (And.right (And.right (And.right (by with_reducible assumption))))) | with_reducible exact And.right (And.right (And.right (And.right (And.right (by with_reducible assumption))))) | with_reducible exact And.left (And.right (And.right (And.right (And.right (And.right (by with_reducible assumption)))))) | with_reducible exact And.right (And.right (And.right (And.right (And.right (And.right (by with_reducible assumption)))))) | with_reducible exact And.left (And.right (And.right (And.right (And.right (And.right (And.right (by with_reducible assumption))))))) | with_reducible exact And.right (And.right (And.right (And.right (And.right (And.right (And.right (by with_reducible assumption))))))) | with_reducible exact And.left (And.right (And.right (And.right (And.right (And.right (And.right (And.right (by with_reducible assumption)))))))) | with_reducible exact And.right (And.right (And.right (And.right (And.right (And.right (And.right (And.right (by with_reducible assumption)))))))) | with_reducible exact And.left (And.right (And.right (And.right (And.right (And.right (And.right (And.right (And.right (by with_reducible assumption))))))))) | with_reducible exact And.right (And.right (And.right (And.right (And.right (And.right (And.right (And.right (And.right (by with_reducible assumption))))))))) | with_reducible exact And.left (And.right (And.right (And.right (And.right (And.right (And.right (And.right (And.right (And.right (by with_reducible assumption)))))))))) | with_reducible exact And.right (And.right (And.right (And.right (And.right (And.right (And.right (And.right (And.right (And.right (by with_reducible assumption)))))))))) | with_reducible exact Nat.lt_succ_self _ | with_reducible exact Nat.lt_add_right _ (Nat.lt_succ_self _) | with_reducible exact Nat.lt_add_right _ (Nat.lt_add_right _ (Nat.lt_succ_self _)) | with_reducible exact Nat.lt_add_right _ (by with_reducible assumption) | with_reducible exact Nat.lt_add_right _ (Nat.lt_add_right _ (by with_reducible assumption)) | with_reducible exact Nat.lt_add_right _ (Nat.lt_add_right _ (Nat.lt_add_right _ (by with_reducible assumption))) | with_reducible exact Nat.lt_add_right _ (Nat.lt_add_right _ (Nat.lt_add_right _ (Nat.lt_add_right _ (by with_reducible assumption)))) | with_reducible exact Mine.lt_of_add (by with_reducible assumption) | with_reducible exact Mine.lt_of_add (Mine.lt_of_add (by with_reducible assumption)) | with_reducible exact Mine.lt_of_add (Mine.lt_of_add (Mine.lt_of_add (by with_reducible assumption))) | with_reducible exact Mine.lt_of_add (Mine.lt_of_add (Mine.lt_of_add (Mine.lt_of_add (by with_reducible assumption))))) | with_reducible exact Nat.ne_of_gt (by first | with_reducible assumption | with_reducible exact And.left (by with_reducible assumption) | with_reducible exact And.right (by with_reducible assumption) | with_reducible exact And.left (And.right (by with_reducible assumption)) | with_reducible exact And.right (And.right (by with_reducible assumption)) | with_reducible exact And.left (And.right (And.right (by with_reducible assumption))) | with_reducible exact And.right (And.right (And.right (by with_reducible assumption))) | with_reducible exact And.left (And.right (And.right (And.right (by with_reducible assumption)))) | with_reducible exact And.right (And.right (And.right (And.right (by with_reducible assumption)))) | with_reducible exact And.left (And.right (And.right (And.right (And.right (by with_reducible assumption))))) | with_reducible exact And.right (And.right (And.right (And.right (And.right (by with_reducible assumption))))) | with_reducible exact And.left (And.right (And.right (And.right (And.right (And.right (by with_reducible assumption)))))) | with_reducible exact And.right (And.right (And.right (And.right (And.right (And.right (by with_reducible assumption)))))) | with_reducible exact And.left (And.right (And.right (And.right (And.right (And.right (And.right (by with_reducible assumption))))))) | with_reducible exact And.right (And.right (And.right (And.right (And.right (And.right (And.right (by with_reducible assumption))))))) | with_reducible exact And.left (And.right (And.right (And.right (And.right (And.right (And.right (And.right (by with_reducible assumption)))))))) | with_reducible exact And.right (And.right (And.right (And.right (And.right (And.right (And.right (And.right (by with_reducible assumption)))))))) | with_reducible exact And.left (And.right (And.right (And.right (And.right (And.right (And.right (And.right (And.right (by with_reducible assumption))))))))) | with_reducible exact And.right (And.right (And.right (And.right (And.right (And.right (And.right (And.right (And.right (by with_reducible assumption))))))))) | with_reducible exact And.left (And.right (And.right (And.right (And.right (And.right (And.right (And.right (And.right (And.right (by with_reducible assumption)))))))))) | with_reducible exact And.right (And.right (And.right (And.right (And.right (And.right (And.right (And.right (And.right (And.right (by with_reducible assumption)))))))))) | with_reducible exact Nat.lt_succ_self _ | with_reducible exact Nat.lt_add_right _ (Nat.lt_succ_self _) | with_reducible exact Nat.lt_add_right _ (Nat.lt_add_right _ (Nat.lt_succ_self _)) | with_reducible exact Nat.lt_add_right _ (by with_reducible assumption) | with_reducible exact Nat.lt_add_right _ (Nat.lt_add_right _ (by with_reducible assumption)) | with_reducible exact Nat.lt_add_right _ (Nat.lt_add_right _ (Nat.lt_add_right _ (by with_reducible assumption))) | with_reducible exact Nat.lt_add_right _ (Nat.lt_add_right _ (Nat.lt_add_right _ (Nat.lt_add_right _ (by with_reducible assumption)))) | with_reducible exact Mine.lt_of_add (by with_reducible assumption) | with_reducible exact Mine.lt_of_add (Mine.lt_of_add (by with_reducible assumption)) | with_reducible exact Mine.lt_of_add (Mine.lt_of_add (Mine.lt_of_add (by with_reducible assumption))) | with_reducible exact Mine.lt_of_add (Mine.lt_of_add (Mine.lt_of_add (Mine.lt_of_add (by with_reducible assumption))))) | omega))
local macro_rules | `(tactic| omega) => `(tactic| first | with_reducible assumption | with_reducible exact Nat.le_of_ble_eq_true rfl | with_reducible exact Nat.le_of_lt (Nat.lt_of_lt_of_le (by with_reducible assumption) (by with_reducible exact Nat.le_of_ble_eq_true rfl)) | with_reducible exact Nat.lt_of_lt_of_le (by with_reducible assumption) (by with_reducible exact Nat.le_of_ble_eq_true rfl) | with_reducible exact Nat.le_trans (by with_reducible assumption) (by with_reducible exact Nat.le_of_ble_eq_true rfl) | with_reducible exact Nat.lt_of_lt_of_le (Nat.add_lt_add_right (by with_reducible assumption) _) (by with_reducible exact Nat.le_of_ble_eq_true rfl) | with_reducible exact Nat.le_of_lt (Nat.lt_of_lt_of_le (Nat.add_lt_add_right (by with_reducible assumption) _) (by with_reducible exact Nat.le_of_ble_eq_true rfl)) | with_reducible exact Nat.lt_of_lt_of_le (Nat.add_lt_add_right (Nat.add_lt_add_right (by with_reducible assumption) _) _) (by with_reducible exact Nat.le_of_ble_eq_true rfl) | with_reducible exact Nat.le_of_lt (Nat.lt_of_lt_of_le (Nat.add_lt_add_right (Nat.add_lt_add_right (by with_reducible assumption) _) _) (by with_reducible exact Nat.le_of_ble_eq_true rfl)) | with_reducible exact Nat.lt_of_lt_of_le (Nat.add_lt_add_right (Nat.add_lt_add_right (Nat.add_lt_add_right (by with_reducible assumption) _) _) _) (by with_reducible exact Nat.le_of_ble_eq_true rfl) | with_reducible exact Nat.le_of_lt (Nat.lt_of_lt_of_le (Nat.add_lt_add_right (Nat.add_lt_add_right (Nat.add_lt_add_right (by with_reducible assumption) _) _) _) (by with_reducible exact Nat.le_of_ble_eq_true rfl)) | with_reducible exact Int.add_nonneg (Int.le_refl _) (Int.natCast_nonneg _) | (with_reducible refine And.intro ?_ ?_) <;> (and_intros <;> first | with_reducible assumption | with_reducible exact And.left (by with_reducible assumption) | with_reducible exact And.right (by with_reducible assumption) | with_reducible exact And.left (And.right (by with_reducible assumption)) | with_reducible exact And.right (And.right (by with_reducible assumption)) | with_reducible exact And.left (And.right (And.right (by with_reducible assumption))) | with_reducible exact And.right (And.right (And.right (by with_reducible assumption))) | with_reducible exact And.left (And.right (And.right (And.right (by with_reducible assumption)))) | with_reducible exact And.right (And.right (And.right (And.right (by with_reducible assumption)))) | with_reducible exact And.left (And.right (And.right (And.right (And.right (by with_reducible assumption))))) | with_reducible exact And.right (And.right (And.right (And.right (And.right (by with_reducible assumption))))) | with_reducible exact And.left (And.right (And.right (And.right (And.right (And.right (by with_reducible assumption)))))) | with_reducible exact And.right (And.right (And.right (And.right (And.right (And.right (by with_reducible assumption)))))) | with_reducible exact And.left (And.right (And.right (And.right (And.right (And.right (And.right (by with_reducible assumption))))))) | with_reducible exact And.right (And.right (And.right (And.right (And.right (And.right (And.right (by with_reducible assumption))))))) | with_reducible exact And.left (And.right (And.right (And.right (And.right (And.right (And.right (And.right (by with_reducible assumption)))))))) | with_reducible exact And.right (And.right (And.right (And.right (And.right (And.right (And.right (And.right (by with_reducible assumption)))))))) | with_reducible exact And.left (And.right (And.right (And.right (And.right (And.right (And.right (And.right (And.right (by with_reducible assumption))))))))) | with_reducible exact And.right (And.right (And.right (And.right (And.right (And.right (And.right (And.right (And.right (by with_reducible assumption))))))))) | with_reducible exact And.left (And.right (And.right (And.right (And.right (And.right (And.right (And.right (And.right (And.right (by with_reducible assumption)))))))))) | with_reducible exact And.right (And.right (And.right (And.right (And.right (And.right (And.right (And.right (And.right (And.right (by with_reducible assumption))))))))))) | omega (config := {}))
section
open PySem PySem.W PyProof.Rows PySem.Calls
set_option Elab.async false
set_option maxRecDepth 100000
set_option maxHeartbeats 8000000
namespace Mine
theorem set_back_MBase : True := by w_top off; trivial

theorem get_ne {m : Str → Option Value} {x y : Str} {v r : Option Value} (hne : y ≠ x) (h : m y = r) : (fun z => if z = x then v else m z) y = r := by
  show (if y = x then v else m y) = r
  rw [if_neg hne]; exact h
theorem get_eq {m : Str → Option Value} {x : Str} {v : Option Value} : (fun z => if z = x then v else m z) x = v := if_pos rfl

theorem ne_of_allLt {d : Addr} {l : List (Addr × Obj)} (h : AllLt d l) : ∀ p ∈ l, p.1 ≠ d := by
  induction l with
  | nil => intro p hp; cases hp
  | cons q l ih =>
    intro p hp
    rcases List.mem_cons.mp hp with e | hp
    · rw [e]; exact Nat.ne_of_lt h.1
    · exact ih h.2 p hp

section
variable {prog : Program} {w : World} {A : Around} {E : Value → Shared → Prop} {s : Shared} {env : Env} {test : PySem.Expr} {body : List Stmt} {Q : Flow → Shared → Prop}
/-- a while loop by a state, what holds of it and a measure -/
noncomputable def WStep {σ : Type} (J : σ → Shared → Prop) (μ : σ → Nat) (c : σ) (Q : Flow → Shared → Prop) : Flow → Shared → Prop := fun f s₃ =>
  match f with
  | .next => ∃ c', μ c' < μ c ∧ J c' s₃
  | .cont => ∃ c', μ c' < μ c ∧ J c' s₃
  | .brk => Q .next s₃
  | .ret v => Q (.ret v) s₃
theorem whl_ind {σ : Type} (J : σ → Shared → Prop) (μ : σ → Nat) {pos : Pos} (hE : PassesOwn (model prog w) A env E)
    (turn : ∀ c s, J c s → wpAny (model prog w) A (isTrue test env (eval test env)) (fun b s₂ => if b = true then wpAny (model prog w) A (execs body env) (WStep J μ c Q) E s₂ else Q .next s₂) E s)
    (c₀ : σ) (h : J c₀ s) : wpAny (model prog w) A (exec (.While test body [] pos) env) Q E s := by
  refine whl_start 0 ?_
  have go : ∀ n c s, μ c = n → J c s → ∀ k, WhlRest prog w A E env test body [] Q k s := by
    intro n
    induction n using Nat.strongRecOn with
    | ind n ih =>
      intro c s hn hJ k
      suffices H : WhlRest prog w A E env test body [] Q (0 + 1) s from H
      refine whl_turn hE (wpAny_mono (turn c s hJ) (fun b s₂ h₂ => ?_) fun _ _ x => x)
      cases b with
      | false =>
        rw [if_neg Bool.false_ne_true] at h₂
        exact WhlIf.no rfl (wpAny_execs_nil h₂)
      | true =>
        rw [if_pos rfl] at h₂
        refine WhlIf.yes rfl (wpAny_mono h₂ (fun f s₃ h₃ => ?_) fun _ _ x => x)
        cases f with
        | next => obtain ⟨c', hc, hJ'⟩ := h₃; exact ih (μ c') (by omega) c' s₃ rfl hJ' 0
        | cont => obtain ⟨c', hc, hJ'⟩ := h₃; exact ih (μ c') (by omega) c' s₃ rfl hJ' 0
        | brk => exact h₃
        | ret v => exact h₃
  exact go _ c₀ s rfl h 0
end
section
variable {prog : Program} {w : World} {A : Around} {E : Value → Shared → Prop} {s : Shared} {h₀ : Heap} {L a : Addr} {m : Str → Option Value} {rest : List (Addr × Obj)} {xs : List Value} {n : Nat} {k : Int} {t : Tok} {v : Value}
theorem setItem_h {Q : Unit → Shared → Prop} (F : Fr h₀ L s.heap m) (N : News h₀ L s.heap ((a, listOf xs.toArray n) :: rest)) (hrest : ∀ p ∈ rest, p.1 ≠ a) (h0 : 0 ≤ k) (hk : k.toNat < xs.length) (hfit : k < 2 ^ 63)
    (h : ∀ h', Fr h₀ L h' m → News h₀ L h' ((a, listOf (xs.set k.toNat v).toArray n) :: rest) → Q () { s with heap := h' }) : wpAny (model prog w) A (setItem (.ref a) (.int k t) v) Q E s := by
  have z := N (a, listOf xs.toArray n) (.head _)
  refine ki_setAt z.1 h0 hfit (by rw [List.size_toArray]; omega) (h _ (F.change (Heap.SameBut.update ..) z.2.1 z.2.2) (ki_turn (pre := []) _ N (fun _ h => (nomatch h)) hrest ?_ ?_))
  · apply Array.toList_inj.mp
    simp
  · simp
theorem item_h {value slice : PySem.Expr} {Q : Value → Shared → Prop} (N : News h₀ L s.heap ((a, listOf xs.toArray n) :: rest)) (h0 : 0 ≤ k) (hfit : k < 2 ^ 63) (hx : xs[k.toNat]? = some v) (h : Q v s)
    (hs : subscripted slice false (.ref a) (.int k t) = operate [.ref a, .int k t] (getItem (.ref a) (.int k t)) := by with_unfolding_all rfl) (hg : ∀ r, letTemporaryGo value (.ref a) r = pure () := by intro _; with_unfolding_all rfl) :
    wpAny (model prog w) A (subscriptTail value slice (.ref a) (.int k t)) Q E s := kim_list N (.head _) rfl rfl h0 hfit hx h hs hg
end

section
variable {prog : Program} {w : World} {A : Around} {E : Value → Shared → Prop} {s : Shared} {h₀ : Heap} {L a : Addr} {m : Str → Option Value} {rest : List (Addr × Obj)} {xs : List Value} {n : Nat}
theorem len_h {Q : Value → Shared → Prop} (N : News h₀ L s.heap ((a, listOf xs.toArray n) :: rest)) (hlen : xs.length < 1000) (h : Q (.int xs.length (s.toks + 1)) { s with toks := s.toks + 1 + 1 }) : wpAny (model prog w) A (call (.builtin "len") [.ref a]) Q E s := by
  refine len_list (PySem.IsL.isList (n := n) (N _ (.head _)).1) (by rw [List.size_toArray]; omega) ?_
  rw [List.size_toArray]
  exact h
end
section
variable {prog : Program} {w : World} {A : Around} {E : Value → Shared → Prop} {s : Shared} {h₀ : Heap} {L a : Addr} {m : Str → Option Value} {rest : List (Addr × Obj)} {xs : List Value} {n : Nat} {x : Value}
theorem append_h {Q : Value → Shared → Prop} (F : Fr h₀ L s.heap m) (N : News h₀ L s.heap ((a, listOf xs.toArray n) :: rest)) (hrest : ∀ p ∈ rest, p.1 ≠ a) (hlen : xs.length < 1000)
    (h : ∀ h', Fr h₀ L h' m → News h₀ L h' ((a, listOf (xs ++ [x]).toArray (n + 1)) :: rest) → Q .none { s with heap := h' }) : wpAny (model prog w) A (call (.builtin "list.append") [.ref a, x]) Q E s := by
  refine append_K F N (Upd.head hrest) (fun h' F' N' => h h' F' ?_) (by rw [List.size_toArray, sizeLine_eq]; omega)
  rw [show (xs ++ [x]).toArray = xs.toArray.push x by simp]
  exact N'
theorem pop_h {Q : Value → Shared → Prop} (F : Fr h₀ L s.heap m) (N : News h₀ L s.heap ((a, listOf (xs ++ [x]).toArray n) :: rest)) (hrest : ∀ p ∈ rest, p.1 ≠ a) (hlen : xs.length < 1000)
    (h : ∀ h', Fr h₀ L h' m → News h₀ L h' ((a, listOf xs.toArray (n + 1)) :: rest) → Q x { s with heap := h' }) : wpAny (model prog w) A (call (.builtin "list.pop") [.ref a]) Q E s := by
  refine kl_pop F N (p := xs) (y := x) ?_ (Upd.head hrest) ?_ h
  · have := kpa_last x xs; simpa using this
  · rw [List.toList_toArray, List.length_append, sizeLine_eq]; simp only [List.length_singleton]; omega
end
section
variable {prog : Program} {w : World} {A : Around} {E : Value → Shared → Prop} {s : Shared} {h₀ : Heap} {L a : Addr} {m : Str → Option Value} {news : List (Addr × Obj)} {xs : List Value} {n : Nat} {k : Int} {t : Tok} {v : Value}
theorem item_m {value slice : PySem.Expr} {Q : Value → Shared → Prop} (N : News h₀ L s.heap news) (hm : (a, listOf xs.toArray n) ∈ news) (h0 : 0 ≤ k) (hfit : k < 2 ^ 63) (hx : xs[k.toNat]? = some v) (h : Q v s)
    (hs : subscripted slice false (.ref a) (.int k t) = operate [.ref a, .int k t] (getItem (.ref a) (.int k t)) := by with_unfolding_all rfl) (hg : ∀ r, letTemporaryGo value (.ref a) r = pure () := by intro _; with_unfolding_all rfl) :
    wpAny (model prog w) A (subscriptTail value slice (.ref a) (.int k t)) Q E s := kim_list N hm rfl rfl h0 hfit hx h hs hg
end
end Mine
end
section
namespace Mine
theorem set_back_MPure1 : True := by w_top off; trivial
section
variable {α : Type} (lt : α → α → Bool)
/-- what _siftdown(heap, 0, pos) makes of the list, x being what stood at pos -/
noncomputable def sdn (x : α) (xs : List α) (pos : Nat) : List α :=
  if h : pos = 0 then xs.set 0 x else
    match xs[(pos - 1) / 2]? with
    | some p => if lt x p = true then sdn x (xs.set pos p) ((pos - 1) / 2) else xs.set pos x
    | none => xs.set pos x
termination_by pos
decreasing_by omega
theorem sdn_zero (x : α) (xs : List α) : sdn lt x xs 0 = xs.set 0 x := by rw [sdn]; simp
theorem sdn_up {x p : α} {xs : List α} {pos : Nat} (h : pos ≠ 0) (hp : xs[(pos - 1) / 2]? = some p) (hl : lt x p = true) : sdn lt x xs pos = sdn lt x (xs.set pos p) ((pos - 1) / 2) := by
  rw [sdn, dif_neg h, hp]; simp [hl]
theorem sdn_stay {x p : α} {xs : List α} {pos : Nat} (h : pos ≠ 0) (hp : xs[(pos - 1) / 2]? = some p) (hl : lt x p = false) : sdn lt x xs pos = xs.set pos x := by
  rw [sdn, dif_neg h, hp]; simp [hl]
end
end Mine
namespace Mine
section
variable {α : Type} (lt : α → α → Bool)
/-- the way down of _siftup: the hole's place, and the list with the smaller children moved up -/
noncomputable def sup (xs : List α) (pos : Nat) : List α × Nat :=
  match h : xs[2 * pos + 1]? with
  | none => (xs, pos)
  | some l =>
    match xs[2 * pos + 1 + 1]? with
    | none => sup (xs.set pos l) (2 * pos + 1)
    | some r => if lt l r = true then sup (xs.set pos l) (2 * pos + 1) else sup (xs.set pos r) (2 * pos + 1 + 1)
termination_by xs.length - pos
decreasing_by
  all_goals
    have := (List.getElem?_eq_some_iff.mp h).1
    simp only [List.length_set]
    omega
theorem sup_end {xs : List α} {pos : Nat} (h : xs[2 * pos + 1]? = none) : sup lt xs pos = (xs, pos) := by
  rw [sup]; split <;> simp_all
theorem sup_one {xs : List α} {pos : Nat} {l : α} (h : xs[2 * pos + 1]? = some l) (h2 : xs[2 * pos + 1 + 1]? = none) : sup lt xs pos = sup lt (xs.set pos l) (2 * pos + 1) := by
  rw [sup]; split <;> simp_all
theorem sup_left {xs : List α} {pos : Nat} {l r : α} (h : xs[2 * pos + 1]? = some l) (h2 : xs[2 * pos + 1 + 1]? = some r) (hl : lt l r = true) : sup lt xs pos = sup lt (xs.set pos l) (2 * pos + 1) := by
  rw [sup]; split <;> simp_all
theorem sup_right {xs : List α} {pos : Nat} {l r : α} (h : xs[2 * pos + 1]? = some l) (h2 : xs[2 * pos + 1 + 1]? = some r) (hl : lt l r = false) : sup lt xs pos = sup lt (xs.set pos r) (2 * pos + 1 + 1) := by
  rw [sup]; split <;> simp_all
/-- _siftup(heap, 0): x stood at the root -/
noncomputable def siftupP (x : α) (xs : List α) : List α := sdn lt x ((sup lt xs 0).1.set (sup lt xs 0).2 x) (sup lt xs 0).2
/-- heappop of xs ++ [x]: what goes out, and the list -/
noncomputable def popP (xs : List α) (x : α) : α × List α :=
  match xs with
  | [] => (x, [])
  | y :: r => (y, siftupP lt x ((y :: r).set 0 x))
end
end Mine
end
section
set_option Elab.async false
namespace Mine
theorem set_back_MPure3 : True := by w_top off; trivial
/-- a strict order in which any two things that neither comes first of are one -/
structure Ord {α : Type} (lt : α → α → Bool) : Prop where
  irr : ∀ a, lt a a = false
  tr : ∀ a b c, lt a b = true → lt b c = true → lt a c = true
  tot : ∀ a b, lt a b = false → lt b a = false → a = b
section
variable {α : Type} {lt : α → α → Bool}
theorem Ord.asym (O : Ord lt) {a b : α} (h : lt a b = true) : lt b a = false := by
  cases h2 : lt b a with
  | false => rfl
  | true => have := O.tr _ _ _ h h2; rw [O.irr] at this; cases this
theorem Ord.le_tr (O : Ord lt) {a b c : α} (h1 : lt b a = false) (h2 : lt c b = false) : lt c a = false := by
  cases h : lt c a with
  | false => rfl
  | true =>
    cases h3 : lt a b with
    | true => rw [O.tr _ _ _ h h3] at h2; cases h2
    | false => have e := O.tot _ _ h1 h3; subst e; rw [h] at h2; cases h2
theorem Ord.lt_le (O : Ord lt) {a b c : α} (h1 : lt a b = true) (h2 : lt c b = false) : lt c a = false := O.le_tr (O.asym h1) h2

theorem set_swap_perm [DecidableEq α] {xs : List α} {i j : Nat} {a x : α} (hij : i ≠ j) (ha : xs[i]? = some a) (hj : j < xs.length) : ((xs.set j a).set i x).Perm (xs.set j x) := by
  rw [List.perm_iff_count]
  intro b
  have hi := (List.getElem?_eq_some_iff.mp ha).1
  have e := (List.getElem?_eq_some_iff.mp ha).2
  rw [List.count_set (by simpa using hi), List.count_set hj, List.count_set hj]
  have e2 : (xs.set j a)[i]'(by simpa using hi) = a := by rw [List.getElem_set_ne (by omega)]; exact e
  rw [e2]
  by_cases c1 : a = b <;> by_cases c2 : xs[j] = b <;> by_cases c3 : x = b <;> simp_all <;> omega
/-- every item is no smaller than what stands above it -/
noncomputable def HeapP (lt : α → α → Bool) (xs : List α) : Prop := ∀ i p c, 0 < i → xs[(i - 1) / 2]? = some p → xs[i]? = some c → lt c p = false
theorem sdn_ok [DecidableEq α] (O : Ord lt) {x : α} : ∀ (pos : Nat) (xs : List α), pos < xs.length →
    (∀ i p c, 0 < i → i ≠ pos → (xs.set pos x)[(i - 1) / 2]? = some p → (xs.set pos x)[i]? = some c → lt c p = false) →
    (∀ i p c, 0 < i → (i - 1) / 2 = pos → 0 < pos → xs[(pos - 1) / 2]? = some p → xs[i]? = some c → lt c p = false) →
    HeapP lt (sdn lt x xs pos) ∧ (sdn lt x xs pos).Perm (xs.set pos x) := by
  intro pos
  induction pos using Nat.strongRecOn with
  | ind pos ih =>
    intro xs hpos h1 h2
    by_cases h0 : pos = 0
    · subst h0
      rw [sdn_zero]
      exact ⟨fun i p c hi hp hc => h1 i p c hi (by omega) hp hc, .refl _⟩
    · have hpp : (pos - 1) / 2 < pos := by omega
      have hpl : (pos - 1) / 2 < xs.length := by omega
      have hp0 : xs[(pos - 1) / 2]? = some xs[(pos - 1) / 2] := List.getElem?_eq_getElem hpl
      generalize xs[(pos - 1) / 2] = p0 at hp0
      cases hl : lt x p0 with
      | false =>
        rw [sdn_stay lt h0 hp0 hl]
        refine ⟨fun i p c hi hp hc => ?_, .refl _⟩
        by_cases e : i = pos
        · subst e
          rw [List.getElem?_set_ne (by omega), hp0] at hp
          rw [List.getElem?_set_self hpos] at hc
          cases hp; cases hc; exact hl
        · exact h1 i p c hi e hp hc
      | true =>
        rw [sdn_up lt h0 hp0 hl]
        have key := ih ((pos - 1) / 2) hpp (xs.set pos p0) (by simpa using hpl) ?_ ?_
        · exact ⟨key.1, key.2.trans (set_swap_perm (by omega) hp0 hpos)⟩
        · intro i p c hi hne hp hc
          simp only [List.getElem?_set, List.length_set] at hp hc h1
          by_cases e1 : i = pos
          · subst e1
            rw [if_pos rfl, if_pos hpl] at hp
            rw [if_neg (by omega), if_pos rfl, if_pos hpos] at hc
            cases hp; cases hc; exact O.asym hl
          · by_cases e2 : (i - 1) / 2 = pos
            · rw [e2, if_neg (by omega), if_pos rfl, if_pos hpos] at hp
              rw [if_neg (by omega), if_neg (by omega)] at hc
              cases hp
              exact h2 i p0 c hi e2 (by omega) hp0 hc
            · by_cases e3 : (i - 1) / 2 = (pos - 1) / 2
              · rw [e3, if_pos rfl, if_pos hpl] at hp
                rw [if_neg (by omega), if_neg (by omega)] at hc
                cases hp
                refine O.lt_le hl (h1 i p0 c hi e1 ?_ ?_)
                · rw [if_neg (by omega), e3]; exact hp0
                · rw [if_neg (by omega)]; exact hc
              · rw [if_neg (by omega), if_neg (by omega)] at hp
                rw [if_neg (by omega), if_neg (by omega)] at hc
                refine h1 i p c hi e1 ?_ ?_
                · rw [if_neg (by omega)]; exact hp
                · rw [if_neg (by omega)]; exact hc
        · intro i p c hi e hq hp hc
          simp only [List.getElem?_set] at hp hc h1
          rw [if_neg (by omega)] at hp
          have hb : lt p0 p = false := h1 ((pos - 1) / 2) p p0 hq (by omega) (by rw [if_neg (by omega)]; exact hp) (by rw [if_neg (by omega)]; exact hp0)
          by_cases e1 : i = pos
          · subst e1
            rw [if_pos rfl, if_pos hpos] at hc
            cases hc
            exact hb
          · rw [if_neg (by omega)] at hc
            refine O.le_tr hb (h1 i p0 c hi e1 ?_ ?_)
            · rw [if_neg (by omega), e]; exact hp0
            · rw [if_neg (by omega)]; exact hc
/-- the hole at pos: the edges that do not meet it are in order, and so is what is below it with what is above it -/
noncomputable def HoleP (lt : α → α → Bool) (xs : List α) (pos : Nat) : Prop :=
  (∀ i p c, 0 < i → i ≠ pos → (i - 1) / 2 ≠ pos → xs[(i - 1) / 2]? = some p → xs[i]? = some c → lt c p = false) ∧
  (∀ i p c, 0 < i → (i - 1) / 2 = pos → 0 < pos → xs[(pos - 1) / 2]? = some p → xs[i]? = some c → lt c p = false)
theorem HoleP.down {xs : List α} {pos j : Nat} {c : α} (h : HoleP lt xs pos) (hj : (j - 1) / 2 = pos) (hj0 : 0 < j) (hc : xs[j]? = some c) (hpos : pos < xs.length)
    (hm : ∀ i d, 0 < i → (i - 1) / 2 = pos → i ≠ j → xs[i]? = some d → lt d c = false) : HoleP lt (xs.set pos c) j := by
  constructor
  · intro i p d hi hne hpne hp hd
    simp only [List.getElem?_set] at hp hd
    by_cases e1 : i = pos
    · subst e1
      rw [if_neg (by omega)] at hp
      rw [if_pos rfl, if_pos hpos] at hd
      cases hd
      exact h.2 j p c hj0 hj hi hp hc
    · rw [if_neg (by omega)] at hd
      by_cases e2 : (i - 1) / 2 = pos
      · rw [e2, if_pos rfl, if_pos hpos] at hp
        cases hp
        exact hm i d hi e2 hne hd
      · rw [if_neg (by omega)] at hp
        exact h.1 i p d hi e1 e2 hp hd
  · intro i p d hi e hq hp hd
    simp only [List.getElem?_set] at hp hd
    rw [hj, if_pos rfl, if_pos hpos] at hp
    cases hp
    rw [if_neg (by omega)] at hd
    exact h.1 i c d hi (by omega) (by omega) (by rw [e]; exact hc) hd
theorem sup_ok [DecidableEq α] (O : Ord lt) {x : α} : ∀ (n : Nat) (xs : List α) (pos : Nat), xs.length - pos = n → pos < xs.length → HoleP lt xs pos →
    HoleP lt (sup lt xs pos).1 (sup lt xs pos).2 ∧ (sup lt xs pos).1[2 * (sup lt xs pos).2 + 1]? = none ∧ (sup lt xs pos).2 < (sup lt xs pos).1.length ∧ ((sup lt xs pos).1.set (sup lt xs pos).2 x).Perm (xs.set pos x) := by
  intro n
  induction n using Nat.strongRecOn with
  | ind n ih =>
    intro xs pos hn hpos hh
    cases h1 : xs[2 * pos + 1]? with
    | none => rw [sup_end lt h1]; exact ⟨hh, h1, hpos, .refl _⟩
    | some l =>
      have l1 := (List.getElem?_eq_some_iff.mp h1).1
      have go : ∀ j c, (j - 1) / 2 = pos → 0 < j → xs[j]? = some c → (∀ i d, 0 < i → (i - 1) / 2 = pos → i ≠ j → xs[i]? = some d → lt d c = false) → sup lt xs pos = sup lt (xs.set pos c) j → HoleP lt (sup lt xs pos).1 (sup lt xs pos).2 ∧ (sup lt xs pos).1[2 * (sup lt xs pos).2 + 1]? = none ∧ (sup lt xs pos).2 < (sup lt xs pos).1.length ∧ ((sup lt xs pos).1.set (sup lt xs pos).2 x).Perm (xs.set pos x) := by
        intro j c hj hj0 hc hm e
        have lj := (List.getElem?_eq_some_iff.mp hc).1
        have k := ih (xs.length - j) (by omega) (xs.set pos c) j (by simp) (by simpa using lj) (hh.down hj hj0 hc hpos hm)
        rw [e]
        exact ⟨k.1, k.2.1, k.2.2.1, k.2.2.2.trans (set_swap_perm (by omega) hc hpos)⟩
      cases h2 : xs[2 * pos + 1 + 1]? with
      | none =>
        refine go (2 * pos + 1) l (by omega) (by omega) h1 ?_ (sup_one lt h1 h2)
        intro i d hi e hne hd
        have : i = 2 * pos + 1 + 1 := by omega
        rw [this, h2] at hd; cases hd
      | some r =>
        cases hl : lt l r with
        | true =>
          refine go (2 * pos + 1) l (by omega) (by omega) h1 ?_ (sup_left lt h1 h2 hl)
          intro i d hi e hne hd
          have : i = 2 * pos + 1 + 1 := by omega
          rw [this, h2] at hd; cases hd; exact O.asym hl
        | false =>
          refine go (2 * pos + 1 + 1) r (by omega) (by omega) h2 ?_ (sup_right lt h1 h2 hl)
          intro i d hi e hne hd
          have : i = 2 * pos + 1 := by omega
          rw [this, h1] at hd; cases hd; exact hl
theorem siftup_ok [DecidableEq α] (O : Ord lt) {x y : α} {r : List α} (h : HeapP lt (y :: r)) : HeapP lt (siftupP lt x ((y :: r).set 0 x)) ∧ (siftupP lt x ((y :: r).set 0 x)).Perm (x :: r) := by
  have hh : HoleP lt (x :: r) 0 := by
    refine ⟨fun i p c hi hne hpne hp hc => ?_, fun i p c _ _ h0 => absurd h0 (by omega)⟩
    refine h i p c hi ?_ ?_
    · obtain ⟨k, hk⟩ : ∃ k, (i - 1) / 2 = k + 1 := ⟨(i - 1) / 2 - 1, by omega⟩
      rw [hk] at hp ⊢; simpa using hp
    · obtain ⟨k, hk⟩ : ∃ k, i = k + 1 := ⟨i - 1, by omega⟩
      rw [hk] at hc ⊢; simpa using hc
  have k := sup_ok O (x := x) _ (x :: r) 0 rfl (by simp) hh
  have e : (y :: r).set 0 x = x :: r := rfl
  rw [e]
  unfold siftupP
  generalize sup lt (x :: r) 0 = z at k
  obtain ⟨ys, pos⟩ := z
  obtain ⟨k1, k2, k3, k4⟩ := k
  dsimp only at *
  have kk := sdn_ok O (x := x) pos (ys.set pos x) (by simpa using k3) ?_ ?_
  · rw [List.set_set] at kk
    exact ⟨kk.1, kk.2.trans k4⟩
  · intro i p c hi hne hp hc
    simp only [List.set_set] at hp hc
    have hl := (List.getElem?_eq_some_iff.mp hc).1
    rw [List.length_set] at hl
    have hno : (i - 1) / 2 ≠ pos := by
      intro e
      have : ys.length ≤ 2 * pos + 1 := by simpa using k2
      omega
    rw [List.getElem?_set_ne (by omega)] at hp hc
    exact k1.1 i p c hi hne hno hp hc
  · intro i p c hi e h0 hp hc
    have hl := (List.getElem?_eq_some_iff.mp hc).1
    rw [List.length_set] at hl
    have : ys.length ≤ 2 * pos + 1 := by simpa using k2
    omega
theorem push_ok [DecidableEq α] (O : Ord lt) {x : α} {xs : List α} (h : HeapP lt xs) : HeapP lt (sdn lt x (xs ++ [x]) xs.length) ∧ (sdn lt x (xs ++ [x]) xs.length).Perm (xs ++ [x]) := by
  have e : (xs ++ [x]).set xs.length x = xs ++ [x] := by simp
  have k := sdn_ok O (x := x) xs.length (xs ++ [x]) (by simp) ?_ ?_
  · rw [e] at k; exact k
  · intro i p c hi hne hp hc
    rw [e] at hp hc
    have hl := (List.getElem?_eq_some_iff.mp hc).1
    simp only [List.length_append, List.length_cons, List.length_nil] at hl
    rw [List.getElem?_append_left (by omega)] at hp hc
    exact h i p c hi hp hc
  · intro i p c hi e0 _ _ hc
    have hl := (List.getElem?_eq_some_iff.mp hc).1
    simp only [List.length_append, List.length_cons, List.length_nil] at hl
    omega
theorem HeapP.pre {xs ys : List α} (h : HeapP lt (xs ++ ys)) : HeapP lt xs := by
  intro i p c hi hp hc
  have hl := (List.getElem?_eq_some_iff.mp hc).1
  exact h i p c hi (by rw [List.getElem?_append_left (by omega)]; exact hp) (by rw [List.getElem?_append_left hl]; exact hc)
theorem HeapP.min (O : Ord lt) {xs : List α} {y : α} (h : HeapP lt xs) (hy : xs[0]? = some y) : ∀ z ∈ xs, lt z y = false := by
  have go : ∀ (i : Nat) z, xs[i]? = some z → lt z y = false := by
    intro i
    induction i using Nat.strongRecOn with
    | ind i ih =>
      intro z hz
      by_cases h0 : i = 0
      · subst h0; rw [hy] at hz; cases hz; exact O.irr _
      · have hl := (List.getElem?_eq_some_iff.mp hz).1
        have hp : xs[(i - 1) / 2]? = some xs[(i - 1) / 2] := List.getElem?_eq_getElem (by omega)
        exact O.le_tr (ih ((i - 1) / 2) (by omega) _ hp) (h i _ z (by omega) hp hz)
  intro z hz
  obtain ⟨i, hi, e⟩ := List.getElem_of_mem hz
  exact go i z (by rw [List.getElem?_eq_getElem hi, e])
theorem pop_ok [DecidableEq α] (O : Ord lt) {x : α} {xs : List α} (h : HeapP lt (xs ++ [x])) : HeapP lt (popP lt xs x).2 ∧ ((popP lt xs x).1 :: (popP lt xs x).2).Perm (xs ++ [x]) ∧ (xs ++ [x])[0]? = some (popP lt xs x).1 := by
  cases xs with
  | nil => exact ⟨fun i p c _ hp => by simp [popP] at hp, .refl _, rfl⟩
  | cons y r =>
    have k := siftup_ok O (x := x) h.pre
    refine ⟨k.1, ?_, rfl⟩
    show (y :: siftupP lt x ((y :: r).set 0 x)).Perm (y :: (r ++ [x]))
    exact (k.2.trans (by simpa using (List.perm_append_comm (l₁ := [x]) (l₂ := r)))).cons y
end
end Mine
end
section
set_option Elab.async false
namespace Mine
theorem set_back_MMap : True := by w_top off; trivial
section
variable {α β : Type} (f : α → β) (lt : β → β → Bool)
abbrev ltf : α → α → Bool := fun a b => lt (f a) (f b)
theorem sdn_map (x : α) : ∀ (pos : Nat) (xs : List α), pos < xs.length → (sdn (ltf f lt) x xs pos).map f = sdn lt (f x) (xs.map f) pos := by
  intro pos
  induction pos using Nat.strongRecOn with
  | ind pos ih =>
    intro xs hl
    by_cases h0 : pos = 0
    · subst h0; rw [sdn_zero, sdn_zero, List.map_set]
    · have hp : xs[(pos - 1) / 2]? = some xs[(pos - 1) / 2] := List.getElem?_eq_getElem (by omega)
      have hp2 : (xs.map f)[(pos - 1) / 2]? = some (f xs[(pos - 1) / 2]) := by rw [List.getElem?_map, hp]; rfl
      cases h : lt (f x) (f xs[(pos - 1) / 2]) with
      | true =>
        rw [sdn_up (ltf f lt) h0 hp h, sdn_up lt h0 hp2 h, ih _ (by omega) _ (by rw [List.length_set]; omega), List.map_set]
      | false =>
        rw [sdn_stay (ltf f lt) h0 hp h, sdn_stay lt h0 hp2 h, List.map_set]
theorem sup_map : ∀ (k : Nat) (xs : List α) (pos : Nat), xs.length - pos = k → (sup (ltf f lt) xs pos).1.map f = (sup lt (xs.map f) pos).1 ∧ (sup (ltf f lt) xs pos).2 = (sup lt (xs.map f) pos).2 := by
  intro k
  induction k using Nat.strongRecOn with
  | ind k ih =>
    intro xs pos hk
    cases h1 : xs[2 * pos + 1]? with
    | none =>
      have h1' : (xs.map f)[2 * pos + 1]? = none := by rw [List.getElem?_map, h1]; rfl
      rw [sup_end _ h1, sup_end _ h1']; exact ⟨rfl, rfl⟩
    | some l =>
      have l1 := (List.getElem?_eq_some_iff.mp h1).1
      have h1' : (xs.map f)[2 * pos + 1]? = some (f l) := by rw [List.getElem?_map, h1]; rfl
      cases h2 : xs[2 * pos + 1 + 1]? with
      | none =>
        have h2' : (xs.map f)[2 * pos + 1 + 1]? = none := by rw [List.getElem?_map, h2]; rfl
        rw [sup_one _ h1 h2, sup_one _ h1' h2']
        have := ih (xs.length - (2 * pos + 1)) (by omega) (xs.set pos l) (2 * pos + 1) (by simp)
        rw [List.map_set] at this; exact this
      | some r =>
        have l2 := (List.getElem?_eq_some_iff.mp h2).1
        have h2' : (xs.map f)[2 * pos + 1 + 1]? = some (f r) := by rw [List.getElem?_map, h2]; rfl
        cases h : lt (f l) (f r) with
        | true =>
          rw [sup_left (ltf f lt) h1 h2 h, sup_left lt h1' h2' h]
          have := ih (xs.length - (2 * pos + 1)) (by omega) (xs.set pos l) (2 * pos + 1) (by simp)
          rw [List.map_set] at this; exact this
        | false =>
          rw [sup_right (ltf f lt) h1 h2 h, sup_right lt h1' h2' h]
          have := ih (xs.length - (2 * pos + 1 + 1)) (by omega) (xs.set pos r) (2 * pos + 1 + 1) (by simp)
          rw [List.map_set] at this; exact this
theorem sup_bound {γ : Type} (lt : γ → γ → Bool) : ∀ (k : Nat) (xs : List γ) (pos : Nat), xs.length - pos = k → pos < xs.length → (sup lt xs pos).2 < (sup lt xs pos).1.length := by
  intro k
  induction k using Nat.strongRecOn with
  | ind k ih =>
    intro xs pos hk hp
    cases h1 : xs[2 * pos + 1]? with
    | none => rw [sup_end _ h1]; exact hp
    | some l =>
      have l1 := (List.getElem?_eq_some_iff.mp h1).1
      cases h2 : xs[2 * pos + 1 + 1]? with
      | none => rw [sup_one _ h1 h2]; exact ih (xs.length - (2 * pos + 1)) (by omega) _ _ (by simp) (by simpa using l1)
      | some r =>
        have l2 := (List.getElem?_eq_some_iff.mp h2).1
        cases h : lt l r with
        | true => rw [sup_left _ h1 h2 h]; exact ih (xs.length - (2 * pos + 1)) (by omega) _ _ (by simp) (by simpa using l1)
        | false => rw [sup_right _ h1 h2 h]; exact ih (xs.length - (2 * pos + 1 + 1)) (by omega) _ _ (by simp) (by simpa using l2)
theorem siftup_map (x : α) (xs : List α) (h : xs ≠ []) : (siftupP (ltf f lt) x xs).map f = siftupP lt (f x) (xs.map f) := by
  unfold siftupP
  have hb := sup_bound (ltf f lt) _ xs 0 rfl (List.length_pos_iff.mpr h)
  rw [sdn_map f lt x _ _ (by rw [List.length_set]; exact hb), List.map_set, (sup_map f lt _ xs 0 rfl).1, (sup_map f lt _ xs 0 rfl).2]
theorem pop_map (xs : List α) (x : α) : ((popP (ltf f lt) xs x).2).map f = (popP lt (xs.map f) (f x)).2 ∧ f (popP (ltf f lt) xs x).1 = (popP lt (xs.map f) (f x)).1 := by
  cases xs with
  | nil => exact ⟨rfl, rfl⟩
  | cons y r =>
    refine ⟨?_, rfl⟩
    show (siftupP (ltf f lt) x ((y :: r).set 0 x)).map f = _
    rw [siftup_map f lt x _ (by simp)]
    rfl
/-- pushes, one after another -/
noncomputable def pushes {γ : Type} (lt : γ → γ → Bool) (xs : List γ) (ls : List γ) : List γ := ls.foldl (fun h x => sdn lt x (h ++ [x]) h.length) xs
theorem pushes_map (ls : List α) : ∀ xs : List α, (pushes (ltf f lt) xs ls).map f = pushes lt (xs.map f) (ls.map f) := by
  induction ls with
  | nil => intro xs; rfl
  | cons x r ih =>
    intro xs
    show (pushes (ltf f lt) (sdn (ltf f lt) x (xs ++ [x]) xs.length) r).map f = pushes lt (sdn lt (f x) (xs.map f ++ [f x]) (xs.map f).length) (r.map f)
    rw [ih, sdn_map f lt x _ _ (by simp), List.map_append, List.length_map]; rfl
end
section
variable {γ : Type} {lt : γ → γ → Bool}
theorem pushes_ok [DecidableEq γ] (O : Ord lt) (ls : List γ) : ∀ xs, HeapP lt xs → HeapP lt (pushes lt xs ls) ∧ (pushes lt xs ls).Perm (xs ++ ls) := by
  induction ls with
  | nil => intro xs h; exact ⟨h, by rw [List.append_nil]; exact .refl _⟩
  | cons x r ih =>
    intro xs h
    have k := push_ok O (x := x) h
    have k2 := ih _ k.1
    refine ⟨k2.1, k2.2.trans ?_⟩
    rw [show xs ++ x :: r = (xs ++ [x]) ++ r by simp]
    exact k.2.append_right r
theorem pushes_length (ls : List γ) : ∀ xs : List γ, (pushes lt xs ls).length = xs.length + ls.length := by
  have sl : ∀ (x : γ) (pos : Nat) (xs : List γ), (sdn lt x xs pos).length = xs.length := by
    intro x pos
    induction pos using Nat.strongRecOn with
    | ind pos ih =>
      intro xs
      rw [sdn]
      split
      · simp
      · split
        · split
          · rw [ih _ (by omega)]; simp
          · simp
        · simp
  induction ls with
  | nil => intro xs; rfl
  | cons x r ih => intro xs; show (pushes lt _ r).length = _; rw [ih, sl]; simp; omega
end
end Mine
end
section
open PySem PySem.W PyProof.Rows PySem.Calls
set_option Elab.async false
set_option maxRecDepth 100000
set_option maxHeartbeats 1000000
namespace Mine
theorem set_back_MLoop : True := by w_top off; trivial

abbrev NoE : Value → Shared → Prop := fun _ _ => False
abbrev Led := List (Addr × Obj)

/-- the ledger's addresses lie off some -/
noncomputable def Off (ads : List Addr) (l : Led) : Prop := ∀ p ∈ l, p.1 ∉ ads

/-- an iterator at I, its own objects at ads: what a turn's pyNext (and the letting go of an owned tuple) gives, n items, and then none -/
structure NextOk (prog : Program) (w : World) (A : Around) (h₀ : Heap) (L : Addr) (target : PySem.Expr) (I : Addr) (ads : List Addr) (n : Nat) (P : Nat → Value → Led → Prop) (Ok : Nat → Led → Led → Prop) : Prop where
  at_ : ∀ i own news, Ok i own news → ∀ p ∈ own, p.1 ∈ ads
  has : ∀ i own news, Ok i own news → ∀ a ∈ ads, ∃ o, (a, o) ∈ own
  item : ∀ i own news more m (s : Shared) (K : Value → Shared → Prop), i < n → Ok i own news → Fr h₀ L s.heap m → News h₀ L s.heap (own ++ (news ++ more)) → Off ads (news ++ more) →
    (∀ v h' tk own' ext, P i v ext → Ok (i + 1) own' news → Fr h₀ L h' m → News h₀ L h' (own' ++ (ext ++ (news ++ more))) → (∀ p ∈ ext, s.heap.objs.size ≤ p.1) → K v { s with heap := h', toks := tk }) →
    wpAny (model prog w) A (pyNext (.ref I)) (fun r s₁ => match r with | none => False | some v => wpAny (model prog w) A (letOwnedTupleGo target (.ref I) v) (fun _ s₂ => K v s₂) NoE s₁) NoE s
  done : ∀ own news more m (s : Shared) (K : Shared → Prop), Ok n own news → Fr h₀ L s.heap m → News h₀ L s.heap (own ++ (news ++ more)) → Off ads (news ++ more) →
    (∀ h' tk, Fr h₀ L h' m → News h₀ L h' (news ++ more) → K { s with heap := h', toks := tk }) →
    wpAny (model prog w) A (pyNext (.ref I)) (fun r s₁ => match r with | none => K s₁ | some _ => False) NoE s

theorem news_sub {h₀ h : Heap} {L : Addr} {l l' : Led} (N : News h₀ L h l) (h1 : ∀ p ∈ l', p ∈ l) : News h₀ L h l' := fun p hp => N p (h1 p hp)
theorem news_swap {h₀ h : Heap} {L : Addr} {a b : Led} (N : News h₀ L h (a ++ b)) : News h₀ L h (b ++ a) := fun p hp => N p ((List.mem_append.mp hp).elim (fun h => List.mem_append.mpr (.inr h)) fun h => List.mem_append.mpr (.inl h))

section
variable {prog : Program} {w : World} {A : Around} {E : Value → Shared → Prop} {s : Shared} {env : Env} {h₀ : Heap} {L I : Addr} {ads : List Addr} {m : Str → Option Value} {own news : Led} {target : PySem.Expr} {body : List Stmt}
  {n : Nat} {P : Nat → Value → Led → Prop} {Ok : Nat → Led → Led → Prop}

/-- where a turn of a for loop ends -/
noncomputable def FEnd (h₀ : Heap) (L : Addr) (ads : List Addr) (Ok : Nat → Led → Led → Prop) (J : Nat → (Str → Option Value) → Led → Prop) (s : Shared) (i : Nat) (s₃ : Shared) : Prop :=
  ∃ h' tk dr m' own news', s₃ = { s with heap := h', toks := tk, drawn := dr } ∧ Fr h₀ L h' m' ∧ News h₀ L h' (news' ++ own) ∧ Off ads news' ∧ Ok (i + 1) own news' ∧ J (i + 1) m' news'
noncomputable def FPost (h₀ : Heap) (L : Addr) (ads : List Addr) (Ok : Nat → Led → Led → Prop) (J : Nat → (Str → Option Value) → Led → Prop) (s : Shared) (Q : Flow → Shared → Prop) (i : Nat) : Flow → Shared → Prop := fun f s₃ =>
  match f with
  | .next => FEnd h₀ L ads Ok J s i s₃
  | .cont => FEnd h₀ L ads Ok J s i s₃
  | .brk => Q .next s₃
  | .ret v => Q (.ret v) s₃

theorem for_walk {Q : Flow → Shared → Prop} {R : Result → Shared → Prop} (X : NextOk prog w A h₀ L target I ads n P Ok) (J : Nat → (Str → Option Value) → Led → Prop)
    (F : Fr h₀ L s.heap m) (N : News h₀ L s.heap (own ++ news)) (off : Off ads news) (hok : Ok 0 own news) (hJ : J 0 m news)
    (turn : ∀ i v m₁ news₁ own h tk dr ext, i < n → P i v ext → J i m₁ news₁ → Off ads news₁ → (∀ p ∈ ext, p.1 ∉ ads ∧ p.1 ≠ L ∧ ∀ q ∈ news₁, q.1 < p.1) → Fr h₀ L h m₁ → News h₀ L h (ext ++ (news₁ ++ own)) → Ok (i + 1) own news₁ →
      wpAny (model prog w) A (assign target env v) (fun _ s₂ => wpAny (model prog w) A (execs body env) (FPost h₀ L ads Ok J s Q i) NoE s₂) NoE { s with heap := h, toks := tk, drawn := dr })
    (done : ∀ m₁ news₁ h tk dr, J n m₁ news₁ → Fr h₀ L h m₁ → News h₀ L h news₁ → Q .next { s with heap := h, toks := tk, drawn := dr })
    (hR : ∀ f s', Q f s' → R (.ok f) s') :
    codeAny (model prog w) A (.forLoop target (.ref I) body [] env) R s := by
  refine codeAny_forLoop_any
    (fun k s' => ∃ h tk dr m₁ own news₁ i, s' = { s with heap := h, toks := tk, drawn := dr } ∧ Fr h₀ L h m₁ ∧ News h₀ L h (own ++ news₁) ∧ Off ads news₁ ∧ Ok i own news₁ ∧ J i m₁ news₁ ∧ i ≤ n ∧ k = n + 1 - i) ?_ (n + 1)
    ⟨s.heap, s.toks, s.drawn, m, own, news, 0, rfl, F, N, off, hok, hJ, Nat.zero_le _, rfl⟩
  rintro k s' ⟨h, tk, dr, m₁, own, news₁, i, rfl, F₁, N₁, off₁, hok₁, hJ₁, hi, rfl⟩
  have noR : ∀ {α : Type} {t : Sem α} {Q' : α → Shared → Prop} {E' : Value → Shared → Prop} {s' : Shared}, wpAny (model prog w) A t Q' NoE s' → wpAny (model prog w) A t Q' E' s' := fun h => wpAny_noRaise h
  by_cases hlt : i < n
  · refine noR (wpAny_mono (X.item i own news₁ [] m₁ _ (fun v s₂ => wpAny (model prog w) A (assign target env v) (fun _ s₂ => wpAny (model prog w) A (execs body env) (FPost h₀ L ads Ok J s Q i) NoE s₂) NoE s₂) hlt hok₁ F₁ (by rw [List.append_nil]; exact N₁) (by rw [List.append_nil]; exact off₁) ?_) (fun r s₁ hr => ?_) fun _ _ x => x)
    · intro v h' tk' own' ext hP hok' F' N' hext
      rw [List.append_nil] at N'
      refine turn i v m₁ news₁ own' h' tk' dr ext hlt hP hJ₁ off₁ (fun p hp => ⟨fun ha => ?_, fun e => ?_, fun q hq => Nat.lt_of_lt_of_le (Heap.lt_size (N₁ q (List.mem_append.mpr (.inr hq))).1) (hext p hp)⟩) F' (news_sub (news_swap N') fun p hp => by rw [List.append_assoc]; exact hp) hok'
      · obtain ⟨o, ho⟩ := X.has _ _ _ hok₁ _ ha
        exact absurd (Heap.lt_size (N₁ _ (List.mem_append.mpr (.inl ho))).1) (Nat.not_lt.mpr (hext p hp))
      · exact absurd (F₁.ns.lt) (Nat.not_lt.mpr (e ▸ hext p hp))
    · cases r with
      | none => exact hr.elim
      | some v =>
        refine noR (wpAny_mono hr (fun _ s₂ h₂ => noR (wpAny_mono h₂ (fun _ s₃ h₃ => noR (wpAny_mono h₃ (fun f s₄ h₄ => ?_) fun _ _ x => x)) fun _ _ x => x)) fun _ _ x => x)
        have fin : FEnd h₀ L ads Ok J s i s₄ → ∃ m, m < n + 1 - i ∧ ∃ h tk dr m₁ own news₁ i, s₄ = { s with heap := h, toks := tk, drawn := dr } ∧ Fr h₀ L h m₁ ∧ News h₀ L h (own ++ news₁) ∧ Off ads news₁ ∧ Ok i own news₁ ∧ J i m₁ news₁ ∧ i ≤ n ∧ m = n + 1 - i := by
          rintro ⟨h', tk', dr', m', own', news', rfl, F', N', off', hok', hJ'⟩
          exact ⟨n + 1 - (i + 1), by omega, h', tk', dr', m', own', news', i + 1, rfl, F', news_swap N', off', hok', hJ', hlt, rfl⟩
        cases f with
        | next => exact fin h₄
        | cont => exact fin h₄
        | brk => exact hR _ _ h₄
        | ret v => exact hR _ _ h₄
  · obtain rfl : i = n := Nat.le_antisymm hi (Nat.not_lt.mp hlt)
    refine noR (wpAny_mono (X.done own news₁ [] m₁ _ (fun s₁ => wpAny (model prog w) A (execs [] env) (fun f s₃ => R (.ok f) s₃) NoE s₁) hok₁ F₁ (by rw [List.append_nil]; exact N₁) (by rw [List.append_nil]; exact off₁) ?_) (fun r s₁ hr => ?_) fun _ _ x => x)
    · intro h' tk' F' N'
      rw [List.append_nil] at N'
      exact wpAny_execs_nil (hR _ _ (done m₁ news₁ h' tk' dr hJ₁ F' N'))
    · cases r with
      | none => exact noR hr
      | some v => exact hr.elim
end
end Mine
end
section
open PySem PySem.W PyProof.Rows PySem.Calls PyProof.Rows.LCg
set_option Elab.async false
set_option maxRecDepth 100000
set_option maxHeartbeats 1000000
namespace Mine
theorem set_back_MComp : True := by w_top off; trivial

/-- where a turn of a comprehension ends, ys being what was taken in -/
noncomputable def CEnd (h₀ : Heap) (L : Addr) (m : Str → Option Value) (ads : List Addr) (C D : Addr) (Ok : Nat → Led → Led → Prop) (J : Nat → List Value → Led → Prop) (s : Shared) (i : Nat) (ys zs : List Value) (s₄ : Shared) : Prop :=
  ∃ h' tk dr own oC mC news', s₄ = { s with heap := h', toks := tk, drawn := dr } ∧ Fr h₀ L h' m ∧ NsObj oC mC ∧ News h₀ L h' ((C, oC) :: (D, lst ys) :: (news' ++ own)) ∧ Off (C :: D :: ads) news' ∧ Ok (i + 1) own news' ∧ J (i + 1) zs news'

section
variable {prog : Program} {w : World} {A : Around} {E : Value → Shared → Prop} {env : Env} {h₀ : Heap} {L I : Addr} {ads : List Addr} {m : Str → Option Value} {news : Led} {target elt iter : PySem.Expr} {ifs : List PySem.Expr} {scope : Scope} {cl : List (Str × Addr)} {pos : Pos}
  {n : Nat} {P : Nat → Value → Led → Prop} {Ok : Nat → Led → Led → Prop}

theorem compLoop_go {R : Result → Shared → Prop} {s : Shared} {it acc : Value} {env : Env} (Inv : Nat → Shared → Prop)
    (turn : ∀ n s, Inv n s → wpAny (model prog w) A (pyNext it) (fun r s₁ => match r with
      | none => R (.ok .next) s₁
      | some v => wpAny (model prog w) A (letOwnedTupleGo target it v) (fun _ s₁' => wpAny (model prog w) A (assign target env v) (fun _ s₂ =>
          wpAny (model prog w) A (forIn ifs true fun c r => if r = true then do let ok ← isTrue c env (eval c env); pure (ForInStep.yield ok) else pure (ForInStep.yield r)) (fun ok s₃ =>
            if ok = true then wpAny (model prog w) A (eval elt env) (fun x s₄ =>
              wpAny (model prog w) A (call (.builtin "list.append") [acc, x]) (fun _ s₅ => ∃ m, m < n ∧ Inv m s₅) NoE s₄) NoE s₃
            else ∃ m, m < n ∧ Inv m s₃) NoE s₂) NoE s₁') NoE s₁) NoE s)
    (n : Nat) (h : Inv n s) : codeAny (model prog w) A (.compLoop (.ListComp elt [⟨target, iter, ifs, 0⟩] scope pos) 0 it acc env) R s := by
  refine codeAny_loop rfl Inv (fun n s hI => ?_) n h
  show wpAny _ A ((compTurn (.ListComp elt [⟨target, iter, ifs, 0⟩] scope pos) 0 it acc env).onRaise (fun x => do noteFrame x env; theTreesLotGoes x)) _ _ s
  refine wpAny_noted ?_
  rw [compTurn_list]
  have noR : ∀ {α : Type} {t : Sem α} {Q' : α → Shared → Prop} {E' : Value → Shared → Prop} {s' : Shared}, wpAny (model prog w) A t Q' NoE s' → wpAny (model prog w) A t Q' E' s' := fun h => wpAny_noRaise h
  refine wpAny_bind (wpAny_standAt (wpAny_bind (noR (wpAny_mono (turn n s hI) (fun r s₁ h₁ => ?_) fun _ _ h' => h'))))
  cases r with
  | none => exact wpAny_pure h₁
  | some v =>
    refine wpAny_bind (noR (wpAny_mono h₁ (fun _ s₁' h₁' => ?_) fun _ _ h' => h'))
    refine wpAny_bind (noR (wpAny_mono h₁' (fun _ s₂ h₂ => wpAny_bind (noR (wpAny_mono h₂ (fun ok s₃ h₃ => ?_) fun _ _ h' => h'))) fun _ _ h' => h'))
    cases ok with
    | false => exact wpAny_pure ⟨rfl, h₃⟩
    | true =>
      exact wpAny_bind (wpAny_bind (noR (wpAny_mono h₃ (fun x s₄ h₄ => wpAny_bind (noR (wpAny_mono h₄ (fun _ s₅ h₅ => wpAny_pure (wpAny_pure ⟨rfl, h₅⟩)) fun _ _ h' => h'))) fun _ _ h' => h')))

theorem comp_block {s₂ : Shared} {own : Led} {RR : Value → Addr → Result → Shared → Prop} (X : NextOk prog w A h₀ L target I ads n P Ok) (hself : ∀ (s : Shared) own news, Ok 0 own news → News h₀ L s.heap (own ++ news) → ∀ Q : Value → Shared → Prop, Q (.ref I) s → wpAny (model prog w) A (pyIter (.ref I)) Q NoE s) (hsz : n ≤ 1000000)
    (J : Nat → List Value → Led → Prop) (hlen : ∀ i ys news, J i ys news → ys.length ≤ i)
    (hcell : ∀ y ∈ scope.names, y.2 ≠ .cell) (hkind : scope.kind = .function)
    (F : Fr h₀ L s₂.heap m) (N : News h₀ L s₂.heap (own ++ news)) (off : Off ads news) (hok : Ok 0 own news) (hJ : J 0 [] news)
    (turn : ∀ i v ys news₁ own C oC D mC h tk dr ext, i < n → P i v ext → J i ys news₁ → Off (C :: D :: ads) news₁ → (∀ p ∈ ext, p.1 ∉ C :: D :: ads ∧ p.1 ≠ L ∧ ∀ q ∈ news₁, q.1 < p.1) → (@Ne Nat C D ∧ C ∉ ads ∧ D ∉ ads) → NsObj oC mC →
      Fr h₀ L h m → News h₀ L h ((C, oC) :: (D, lst ys) :: (ext ++ (news₁ ++ own))) → Ok (i + 1) own news₁ →
      wpAny (model prog w) A (assign target (compEnvC scope cl C env) v) (fun _ s' =>
        wpAny (model prog w) A (forIn ifs true fun c r => if r = true then do let ok ← isTrue c (compEnvC scope cl C env) (eval c (compEnvC scope cl C env)); pure (ForInStep.yield ok) else pure (ForInStep.yield r)) (fun ok s' =>
          if ok = true then wpAny (model prog w) A (eval elt (compEnvC scope cl C env)) (fun y s' => CEnd h₀ L m ads C D Ok J s₂ i ys (ys ++ [y]) s') NoE s' else CEnd h₀ L m ads C D Ok J s₂ i ys ys s') NoE s') NoE { s₂ with heap := h, toks := tk, drawn := dr })
    (hRR : ∀ D C oC mC h tk dr ys news', Fr h₀ L h m → NsObj oC mC → News h₀ L h ((C, oC) :: (D, lst ys) :: news') → C ≠ D → (∀ p ∈ news', p.1 ≠ C ∧ p.1 ≠ D) → J n ys news' → RR (.ref D) C (.ok .next) { s₂ with heap := h, toks := tk, drawn := dr }) :
    wpAny (model prog w) A (newList []) (fun acc s₃ => wpAny (model prog w) A (newFunctionEnv scope env.globals cl [] env.qual none .none (some env)) (fun cenv s₄ =>
      codeAny (model prog w) A (.compStart (.ListComp elt [⟨target, iter, ifs, 0⟩] scope pos) 0 (.ref I) acc { cenv with scope := relabel scope env }) (RR acc cenv.locals) s₄) E s₃) E s₂ := by
  refine wpAny_newObj_type (wpAny_newFunctionEnv hcell (by intro y hy; simp at hy) (fun h₁ hns₁ hsb₁ => ?_) hkind)
  dsimp only at hns₁ hsb₁ ⊢
  generalize hH2 : s₂.heap.push { cls := .type "list", dict := none, data := .seq ([] : List Value).toArray } = H2 at hns₁ hsb₁ ⊢
  have hC : H2.objs.size = s₂.heap.objs.size + 1 := by rw [← hH2, Heap.size_push]
  have hDC : s₂.heap.objs.size ≠ H2.objs.size := by rw [hC]; exact Nat.ne_of_lt (Nat.lt_succ_self _)
  have below : ∀ b, b < s₂.heap.objs.size → b ≠ H2.objs.size ∧ b ≠ s₂.heap.objs.size := fun b hb => ⟨by rw [hC]; exact Nat.ne_of_lt (Nat.lt_succ_of_lt hb), Nat.ne_of_lt hb⟩
  have adlt : ∀ a ∈ ads, a < s₂.heap.objs.size := fun a ha => by
    obtain ⟨o, ho⟩ := X.has _ _ _ hok a ha
    exact Heap.lt_size (N _ (List.mem_append.mpr (.inl ho))).1
  have old : ∀ b o, s₂.heap.get? b = some o → h₁.get? b = some o := fun b o e => hsb₁.extBut b o (below b (Heap.lt_size e)).1 (Heap.get?_push_of_some _ (hH2 ▸ Heap.get?_push_of_some _ e))
  have hacc : h₁.get? s₂.heap.objs.size = some (lst []) := hsb₁.extBut _ _ hDC (Heap.get?_push_of_some _ (hH2 ▸ Heap.get?_push_size _ rfl))
  have fresh : ∀ a, s₂.heap.objs.size ≤ a → s₂.heap.get? a = none := fun a ha => by
    cases e : s₂.heap.get? a with
    | none => rfl
    | some o' => exact absurd (Heap.lt_size e) (Nat.not_lt.mpr ha)
  have fresh₀ : ∀ a, s₂.heap.objs.size ≤ a → h₀.get? a = none := fun a ha => by
    cases e : h₀.get? a with
    | none => rfl
    | some o' => have := F.keep a o' e; rw [fresh a ha] at this; cases this
  have hD₀ : h₀.get? s₂.heap.objs.size = none := fresh₀ _ (Nat.le_refl _)
  have hC₀ : h₀.get? H2.objs.size = none := fresh₀ _ (by rw [hC]; exact Nat.le_succ _)
  have hLlt : L < s₂.heap.objs.size := F.ns.lt
  have hDL : s₂.heap.objs.size ≠ L := Ne.symm (below L hLlt).2
  have hCL : H2.objs.size ≠ L := Ne.symm (below L hLlt).1
  have hCa : H2.objs.size ∉ ads := fun ha => (below _ (adlt _ ha)).1 rfl
  have hDa : s₂.heap.objs.size ∉ ads := fun ha => (below _ (adlt _ ha)).2 rfl
  have off₀ : Off (H2.objs.size :: s₂.heap.objs.size :: ads) news := fun p hp hm => by
    have z := below _ (Heap.lt_size (N p (List.mem_append.mpr (.inr hp))).1)
    rcases List.mem_cons.mp hm with e | hm
    · exact z.1 e
    · rcases List.mem_cons.mp hm with e | hm
      · exact z.2 e
      · exact off p hp hm
  obtain ⟨oC₁, heC₁, hoC₁⟩ := ns_obj hns₁
  generalize hCg : H2.objs.size = C at *
  generalize hDg : s₂.heap.objs.size = D at *
  have N₁ : News h₀ L h₁ ((C, oC₁) :: (D, lst []) :: (news ++ own)) := fun p hp => by
    rcases List.mem_cons.mp hp with rfl | hp
    · exact ⟨heC₁, hCL, hC₀⟩
    · rcases List.mem_cons.mp hp with rfl | hp
      · exact ⟨hacc, hDL, hD₀⟩
      · have z := news_swap N p hp
        exact ⟨old _ _ z.1, z.2⟩
  have loop : ∀ s₃ : Shared, s₃ = { s₂ with heap := h₁, toks := s₂.toks + ([] : List (Str × Value)).length } →
      codeAny (model prog w) A (.compLoop (.ListComp elt [⟨target, iter, ifs, 0⟩] scope pos) 0 (.ref I) (.ref D) (compEnvC scope cl C env)) (RR (.ref D) C) s₃ := by
    rintro s₃ rfl
    refine compLoop_go
      (fun k s' => ∃ h' tk dr i ys own oC mC news', s' = { s₂ with heap := h', toks := tk, drawn := dr } ∧ i ≤ n ∧ k = n + 1 - i ∧ Fr h₀ L h' m ∧ NsObj oC mC ∧ News h₀ L h' ((C, oC) :: (D, lst ys) :: (news' ++ own)) ∧
        Off (C :: D :: ads) news' ∧ Ok i own news' ∧ J i ys news') ?_ (n + 1)
      ⟨h₁, _, s₂.drawn, 0, [], own, oC₁, _, news, rfl, Nat.zero_le _, rfl, F.keeps old, hoC₁, N₁, off₀, hok, hJ⟩
    rintro k s' ⟨h', tk, dr, i, ys, own', oC, mC, news', rfl, hi, rfl, F', hoC, N', off', hok', hJ'⟩
    have Nk : News h₀ L h' (own' ++ (news' ++ [(C, oC), (D, lst ys)])) := news_sub N' fun p hp => by
      simp only [List.mem_append, List.mem_cons, List.not_mem_nil, or_false] at hp ⊢
      rcases hp with hp | hp | hp | hp
      · exact .inr (.inr (.inr hp))
      · exact .inr (.inr (.inl hp))
      · exact .inl hp
      · exact .inr (.inl hp)
    have offk : Off ads (news' ++ [(C, oC), (D, lst ys)]) := fun p hp ha => by
      rcases List.mem_append.mp hp with hp | hp
      · exact off' p hp (.tail _ (.tail _ ha))
      · rcases List.mem_cons.mp hp with rfl | hp
        · exact hCa ha
        · rw [List.mem_singleton.mp hp] at ha; exact hDa ha
    by_cases hlt : i < n
    · refine wpAny_mono (X.item i own' news' [(C, oC), (D, lst ys)] m _ (fun v s₁ => wpAny (model prog w) A (assign target (compEnvC scope cl C env) v) (fun _ s' =>
        wpAny (model prog w) A (forIn ifs true fun c r => if r = true then do let ok ← isTrue c (compEnvC scope cl C env) (eval c (compEnvC scope cl C env)); pure (ForInStep.yield ok) else pure (ForInStep.yield r)) (fun ok s' =>
          if ok = true then wpAny (model prog w) A (eval elt (compEnvC scope cl C env)) (fun y s' => CEnd h₀ L m ads C D Ok J s₂ i ys (ys ++ [y]) s') NoE s' else CEnd h₀ L m ads C D Ok J s₂ i ys ys s') NoE s') NoE s₁) hlt hok' F' Nk offk ?_) (fun r s₁ hr => ?_) fun _ _ x => x
      · intro v h₃ tk₃ own₃ ext hP hok₃ F₃ N₃ hext
        refine turn i v ys news' own₃ C oC D mC h₃ tk₃ dr ext hlt hP hJ' off' (fun p hp => ?_) ⟨Ne.symm hDC, hCa, hDa⟩ hoC F₃ (news_sub N₃ fun p hp => ?_) hok₃
        · have hz := hext p hp
          refine ⟨fun hm => ?_, fun e => absurd F'.ns.lt (Nat.not_lt.mpr (e ▸ hz)), fun q hq => Nat.lt_of_lt_of_le (Heap.lt_size (N' q (.tail _ (.tail _ (List.mem_append.mpr (.inl hq))))).1) hz⟩
          rcases List.mem_cons.mp hm with e | hm
          · exact absurd (Heap.lt_size (N' _ (.head _)).1) (Nat.not_lt.mpr (e ▸ hz))
          · rcases List.mem_cons.mp hm with e | hm
            · exact absurd (Heap.lt_size (N' _ (.tail _ (.head _))).1) (Nat.not_lt.mpr (e ▸ hz))
            · obtain ⟨o, ho⟩ := X.has _ _ _ hok' _ hm
              exact absurd (Heap.lt_size (N' _ (.tail _ (.tail _ (List.mem_append.mpr (.inr ho))))).1) (Nat.not_lt.mpr hz)
        · simp only [List.mem_append, List.mem_cons, List.not_mem_nil, or_false] at hp ⊢
          rcases hp with hp | hp | hp | hp | hp
          · exact .inr (.inr (.inr (.inl hp)))
          · exact .inr (.inr (.inr (.inr hp)))
          · exact .inr (.inl hp)
          · exact .inr (.inr (.inl hp))
          · exact .inl hp
      · cases r with
        | none => exact hr.elim
        | some v =>
          refine wpAny_mono hr (fun _ s₁' h₁' => wpAny_mono h₁' (fun _ s₃ h₃ => wpAny_mono h₃ (fun ok s₄ h₄ => ?_) fun _ _ x => x) fun _ _ x => x) fun _ _ x => x
          cases ok with
          | false =>
            rw [if_neg Bool.false_ne_true] at h₄
            rw [if_neg Bool.false_ne_true]
            obtain ⟨h₅, tk₅, dr₅, own₅, oC₅, mC₅, news₅, rfl, F₅, hC₅, N₅, off₅, hok₅, hJ₅⟩ := h₄
            exact ⟨n + 1 - (i + 1), by omega, h₅, tk₅, dr₅, i + 1, ys, own₅, oC₅, mC₅, news₅, rfl, hlt, rfl, F₅, hC₅, N₅, off₅, hok₅, hJ₅⟩
          | true =>
            rw [if_pos rfl] at h₄
            rw [if_pos rfl]
            refine wpAny_mono h₄ (fun y s₅ h₅ => ?_) fun _ _ x => x
            obtain ⟨h₅, tk₅, dr₅, own₅, oC₅, mC₅, news₅, rfl, F₅, hC₅, N₅, off₅, hok₅, hJ₅⟩ := h₅
            have zD := (N₅ (D, lst ys) (.tail _ (.head _))).1
            have hyl := hlen i ys news' hJ'
            refine append_at (hsz := by show ys.toArray.size ≤ sizeLine; rw [List.size_toArray, sizeLine_eq]; omega) zD fun h₆ hs₆ hD₆ => ?_
            refine ⟨n + 1 - (i + 1), by omega, h₆, tk₅, dr₅, i + 1, ys ++ [y], own₅, oC₅, mC₅, news₅, rfl, hlt, rfl, F₅.change hs₆ hDL hD₀, hC₅, fun p hp => ?_, off₅, hok₅, hJ₅⟩
            rcases List.mem_cons.mp hp with rfl | hp
            · exact ⟨hs₆.extBut _ _ (Ne.symm hDC) (N₅ _ (.head _)).1, (N₅ _ (.head _)).2⟩
            · rcases List.mem_cons.mp hp with rfl | hp
              · exact ⟨hD₆.trans (congrArg some (lst_snoc ys y)), hDL, hD₀⟩
              · have z := N₅ p (.tail _ (.tail _ hp))
                refine ⟨hs₆.extBut _ _ (fun e => ?_) z.1, z.2⟩
                rcases List.mem_append.mp hp with hp | hp
                · exact off₅ p hp (.tail _ (e ▸ .head _))
                · exact hDa (e ▸ X.at_ _ _ _ hok₅ p hp)
    · obtain rfl : i = n := Nat.le_antisymm hi (Nat.not_lt.mp hlt)
      refine wpAny_mono (X.done own' news' [(C, oC), (D, lst ys)] m _ (fun s₁ => RR (.ref D) C (.ok .next) s₁) hok' F' Nk offk ?_) (fun r s₁ hr => ?_) fun _ _ x => x
      · intro h₃ tk₃ F₃ N₃
        refine hRR D C oC mC h₃ tk₃ dr ys news' F₃ hoC (news_sub N₃ fun p hp => ?_) (Ne.symm hDC) (fun p hp => ⟨fun e => off' p hp (e ▸ .head _), fun e => off' p hp (.tail _ (e ▸ .head _))⟩) hJ'
        simp only [List.mem_append, List.mem_cons, List.not_mem_nil, or_false] at hp ⊢
        rcases hp with hp | hp | hp
        · exact .inr (.inl hp)
        · exact .inr (.inr hp)
        · exact .inl hp
      · cases r with
        | none => exact hr
        | some v => exact hr.elim
  exact codeAny_compStart_list (loop _ rfl) (wpAny_noRaise (hself _ _ _ hok (news_sub N₁ fun p hp => .tail _ (.tail _ (List.mem_append.mpr ((List.mem_append.mp hp).symm)))) _ (loop _ rfl)))

/-- what a comprehension's source must bring, and what its turns do; Fin: what is wanted behind it -/
noncomputable def CSrc (prog : Program) (w : World) (A : Around) (h₀ : Heap) (L : Addr) (env : Env) (target elt : PySem.Expr) (ifs : List PySem.Expr) (scope : Scope) (cl : List (Str × Addr))
    (Fin : (Str → Option Value) → Shared → Addr → Addr → Obj → Heap → Nat → Drawn → List Value → Led → Prop) (it : Value) (s₂ : Shared) : Prop :=
  ∃ (I : Addr) (ads : List Addr) (own news : Led) (m : Str → Option Value) (n : Nat) (P : Nat → Value → Led → Prop) (Ok : Nat → Led → Led → Prop) (J : Nat → List Value → Led → Prop),
    it = .ref I ∧ NextOk prog w A h₀ L target I ads n P Ok ∧ (∀ (s : Shared) own news, Ok 0 own news → News h₀ L s.heap (own ++ news) → ∀ Q : Value → Shared → Prop, Q (.ref I) s → wpAny (model prog w) A (pyIter (.ref I)) Q NoE s) ∧ n ≤ 1000000 ∧
    (∀ i ys news, J i ys news → ys.length ≤ i) ∧ Fr h₀ L s₂.heap m ∧ News h₀ L s₂.heap (own ++ news) ∧ Off ads news ∧ Ok 0 own news ∧ J 0 [] news ∧
    (∀ i v ys news₁ own C oC D mC h tk dr ext, i < n → P i v ext → J i ys news₁ → Off (C :: D :: ads) news₁ → (∀ p ∈ ext, p.1 ∉ C :: D :: ads ∧ p.1 ≠ L ∧ ∀ q ∈ news₁, q.1 < p.1) → (@Ne Nat C D ∧ C ∉ ads ∧ D ∉ ads) → NsObj oC mC →
      Fr h₀ L h m → News h₀ L h ((C, oC) :: (D, lst ys) :: (ext ++ (news₁ ++ own))) → Ok (i + 1) own news₁ →
      wpAny (model prog w) A (assign target (compEnvC scope cl C env) v) (fun _ s' =>
        wpAny (model prog w) A (forIn ifs true fun c r => if r = true then do let ok ← isTrue c (compEnvC scope cl C env) (eval c (compEnvC scope cl C env)); pure (ForInStep.yield ok) else pure (ForInStep.yield r)) (fun ok s' =>
          if ok = true then wpAny (model prog w) A (eval elt (compEnvC scope cl C env)) (fun y s' => CEnd h₀ L m ads C D Ok J s₂ i ys (ys ++ [y]) s') NoE s' else CEnd h₀ L m ads C D Ok J s₂ i ys ys s') NoE s') NoE { s₂ with heap := h, toks := tk, drawn := dr }) ∧
    (∀ D C oC mC h tk dr ys news', Fr h₀ L h m → NsObj oC mC → News h₀ L h ((C, oC) :: (D, lst ys) :: news') → C ≠ D → (∀ p ∈ news', p.1 ≠ C ∧ p.1 ≠ D) → J n ys news' → Fin m s₂ D C oC h tk dr ys news')

/-- behind a comprehension as an expression -/
noncomputable def FinV (h₀ : Heap) (L : Addr) (Q : Value → Shared → Prop) : (Str → Option Value) → Shared → Addr → Addr → Obj → Heap → Nat → Drawn → List Value → List (Addr × Obj) → Prop :=
  fun m s₂ D _ _ _ tk dr ys news' => ∀ h, Fr h₀ L h m → News h₀ L h ((D, lst ys) :: news') → (∀ p ∈ news', p.1 ≠ D) → Q (.ref D) { s₂ with heap := h, toks := tk, drawn := dr }
/-- behind a comprehension that is assigned -/
noncomputable def FinS (prog : Program) (w : World) (A : Around) (h₀ : Heap) (L : Addr) (env : Env) (y : Str) (py : Pos) (Q : Flow → Shared → Prop) : (Str → Option Value) → Shared → Addr → Addr → Obj → Heap → Nat → Drawn → List Value → List (Addr × Obj) → Prop :=
  fun m s₂ D C oC h tk dr ys news' => C ≠ D → (∀ p ∈ news', p.1 ≠ C ∧ p.1 ≠ D) → Fr h₀ L h m → News h₀ L h ((C, oC) :: (D, lst ys) :: news') →
    wpAny (model prog w) A (assign (.Name y py) env (.ref D)) (fun _ s'' => ∃ h' tk' m' news'', s'' = { s₂ with heap := h', toks := tk', drawn := dr } ∧ Fr h₀ L h' m' ∧ News h₀ L h' ((C, oC) :: news'') ∧ (∀ p ∈ news'', p.1 ≠ C) ∧
      (∀ h'', Fr h₀ L h'' m' → News h₀ L h'' news'' → Q .next { s₂ with heap := h'', toks := tk', drawn := dr })) NoE { s₂ with heap := h, toks := tk, drawn := dr }

theorem comp_eval {s : Shared} {Q : Value → Shared → Prop}
    (hclos : closureFor scope env = pure cl) (hcell : ∀ y ∈ scope.names, y.2 ≠ .cell) (hkind : scope.kind = .function)
    (hnames : ∀ y ∈ scope.names, y.2 = .local → scope.names.lookup y.1 = some .local)
    (h : wpAny (model prog w) A (eval iter env) (fun xv s₁ => wpAny (model prog w) A (pyIter xv) (CSrc prog w A h₀ L env target elt ifs scope cl (FinV h₀ L Q)) E s₁) E s)
    (hs : ∀ x, foldedSetIterable iter env x = pure x := by intro _; rfl) :
    wpAny (model prog w) A (eval (.ListComp elt [⟨target, iter, ifs, 0⟩] scope pos) env) Q E s := by
  rw [eval_ListComp]
  refine wpAny_comprehension_free (use := none) rfl hs hclos hkind hnames (wpAny_mono h (fun xv s₁ h₁ => wpAny_mono h₁ (fun it s₂ h₂ => ?_) fun _ _ e => e) fun _ _ e => e)
  obtain ⟨I, ads, own, news, m, n, P, Ok, J, rfl, X, hself, hsz, hlen, F, N, off, hok, hJ, turn, fin⟩ := h₂
  refine comp_block (RR := fun acc C => compPost (model prog w) A E none Q acc C) X hself hsz J hlen hcell hkind F N off hok hJ turn ?_
  intro D C oC mC h' tk dr ys news' F' hC N' hCD off' hJ'
  have nC := N' _ (.head _)
  refine ⟨mC, hC.ns nC.1, fun h'' hs'' => fin D C oC mC h' tk dr ys news' F' hC N' hCD off' hJ' h'' (F'.change hs'' nC.2.1 nC.2.2) (fun p hp => ⟨hs''.extBut _ _ ?_ (N' p (.tail _ hp)).1, (N' p (.tail _ hp)).2⟩) fun p hp => (off' p hp).2⟩
  rcases List.mem_cons.mp hp with rfl | hp
  · exact Ne.symm hCD
  · exact (off' p hp).1

theorem comp_assign {s : Shared} {y : Str} {py spos : Pos} {Q : Flow → Shared → Prop}
    (hsw : swapsWith (.ListComp elt [⟨target, iter, ifs, 0⟩] scope pos) (some (.Name y py)) spos.line env = pure true)
    (hclos : closureFor scope env = pure cl) (hcell : ∀ y ∈ scope.names, y.2 ≠ .cell) (hkind : scope.kind = .function)
    (hnames : ∀ y ∈ scope.names, y.2 = .local → scope.names.lookup y.1 = some .local)
    (h : wpAny (model prog w) A (eval iter env) (fun xv s₁ => wpAny (model prog w) A (pyIter xv) (CSrc prog w A h₀ L env target elt ifs scope cl (FinS prog w A h₀ L env y py Q)) E s₁) E s)
    (hs : ∀ x, foldedSetIterable iter env x = pure x := by intro _; rfl) :
    wpAny (model prog w) A (exec (.Assign [.Name y py] (.ListComp elt [⟨target, iter, ifs, 0⟩] scope pos) spos) env) Q E s := by
  rw [exec_Assign_Name_used _ _ _ _ hsw]
  refine wpAny_bind (wpAny_standAt (wpAny_bind ?_))
  show wpAny _ A (do let _ ← comprehension (.ListComp elt [⟨target, iter, ifs, 0⟩] scope pos) scope env _ (newList []) false (eval iter env) (some (assign (.Name y py) env))) _ _ s
  refine wpAny_bind (wpAny_mono (wpAny_comprehension_free (use := some (assign (.Name y py) env)) (Q := fun _ s' => Q .next s') rfl hs hclos hkind hnames
    (wpAny_mono h (fun xv s₁ h₁ => wpAny_mono h₁ (fun it s₂ h₂ => ?_) fun _ _ e => e) fun _ _ e => e)) (fun _ s' hq => wpAny_pure (wpAny_pure hq)) fun _ _ e => e)
  obtain ⟨I, ads, own, news, m, n, P, Ok, J, rfl, X, hself, hsz, hlen, F, N, off, hok, hJ, turn, fin⟩ := h₂
  refine comp_block (RR := fun acc C => compPost (model prog w) A E (some (assign (.Name y py) env)) (fun _ s' => Q .next s') acc C) X hself hsz J hlen hcell hkind F N off hok hJ turn ?_
  intro D C oC mC h' tk dr ys news' F' hC N' hCD off' hJ'
  show wpAny _ A (assign (.Name y py) env (.ref D)) _ _ _
  refine wpAny_noRaise (wpAny_mono (fin D C oC mC h' tk dr ys news' F' hC N' hCD off' hJ' hCD off' F' N') (fun _ s'' h'' => ?_) fun _ _ x => x)
  obtain ⟨h₃, tk₃, m₃, news₃, rfl, F₃, N₃, off₃, hQ⟩ := h''
  have nC := N₃ _ (.head _)
  exact ⟨mC, hC.ns nC.1, fun h₄ hs₄ => hQ h₄ (F₃.change hs₄ nC.2.1 nC.2.2) fun p hp => ⟨hs₄.extBut _ _ (off₃ p hp) (N₃ p (.tail _ hp)).1, (N₃ p (.tail _ hp)).2⟩⟩
end
end Mine
end
section
open PySem PySem.W PyProof.Rows PySem.Calls PyProof.Rows.LCg
set_option Elab.async false
set_option maxRecDepth 100000
set_option maxHeartbeats 1000000
namespace Mine
theorem set_back_MIter : True := by w_top off; trivial

/-- a tuple that the base or the ledger holds -/
noncomputable def TSrcAt (h₀ : Heap) (ax : Addr) (its : Array Value) (news : Led) : Prop := IsTup h₀ ax its ∨ ∃ o, (ax, o) ∈ news ∧ o.cls = .type "tuple" ∧ ∃ n, o.data = .seq its n
theorem TSrcAt.tup {h₀ h : Heap} {L ax : Addr} {its : Array Value} {news : Led} (x : TSrcAt h₀ ax its news) (k : ∀ b o, h₀.get? b = some o → h.get? b = some o) (N : News h₀ L h news) : h.IsTuple ax its := by
  rcases x with ⟨o, e, r⟩ | ⟨o, hm, r⟩
  · exact ⟨o, k _ _ e, r⟩
  · exact ⟨o, (N _ hm).1, r⟩

noncomputable def LOk (h₀ : Heap) (I ax : Addr) (its : Array Value) (i : Nat) (own news : Led) : Prop := ∃ o : Obj, own = [(I, o)] ∧ o.cls = .type "list_iterator" ∧ o.data = .fields #[.ref ax, .int i 0] ∧ SrcAt h₀ ax its news
noncomputable def TOk (h₀ : Heap) (I ax : Addr) (its : Array Value) (i : Nat) (own news : Led) : Prop := ∃ o : Obj, own = [(I, o)] ∧ o.cls = .type "tuple_iterator" ∧ o.data = .fields #[.ref ax, .int i 0] ∧ TSrcAt h₀ ax its news
noncomputable def ItemP (its : Array Value) (i : Nat) (v : Value) (ext : Led) : Prop := its[i]? = some v ∧ ext = []

section
variable {prog : Program} {w : World} {A : Around} {E : Value → Shared → Prop} {s : Shared} {env : Env} {h₀ : Heap} {L I ax : Addr} {m : Str → Option Value} {news : Led} {target : PySem.Expr} {its : Array Value}

/-- no owned tuple is let go where the iterator is a list's or a tuple's -/
theorem go_plain {o : Obj} {v : Value} {vs : Array Value} {cls : String} {Q : Unit → Shared → Prop} (ho : s.heap.get? I = some o) (hc : o.cls = .type cls) (hd : o.data = .fields vs)
    (hn : (["enumerate", "zip", "dict_itemiterator", "dict_reverseitemiterator", "odict_iterator", "itertools.zip_longest", "itertools.pairwise"].contains cls) = false) (hQ : Q () s) :
    wpAny (model prog w) A (letOwnedTupleGo target (.ref I) v) Q E s := by
  have key : wpAny (model prog w) A (do
      let (.ref r, .ref a) := (Value.ref I, v) | return
      let o ← load r
      match o.cls, o.data with
      | .type n, .fields vs =>
        if ["enumerate", "zip", "dict_itemiterator", "dict_reverseitemiterator", "odict_iterator", "itertools.zip_longest", "itertools.pairwise"].contains n && vs[0]? == some (rawInt a) then
          rule "for.unpacks-the-owned-tuple"
          updateField r 0 .none
      | _, _ => pure ()) Q E s := by
    cases v with
    | ref a =>
      refine wpAny_bind (wpAny_load ho ?_)
      rw [hc, hd]
      dsimp only
      rw [hn]
      exact wpAny_pure hQ
    | _ => exact wpAny_pure hQ
  cases target <;> first | exact wpAny_pure hQ | exact key

theorem nextOk_list (hh : A.handled = none) : NextOk prog w A h₀ L target I [I] its.size (ItemP its) (LOk h₀ I ax its) where
  at_ := by
    rintro i own news ⟨o, rfl, _⟩ p hp
    rw [List.mem_singleton.mp hp]; exact .head _
  has := by
    rintro i own news ⟨o, rfl, _⟩ a ha
    rw [List.mem_singleton.mp ha]; exact ⟨o, .head _⟩
  item := by
    rintro i own news more m s K hi ⟨o, rfl, hc, hd, S⟩ F N off hK
    have hl := S.list F.keep (news_sub N fun p hp => List.mem_append.mpr (.inr (List.mem_append.mpr (.inl hp))))
    have hI := N (I, o) (.head _)
    refine wpAny_pyNext_list_item ⟨o, hI.1, hc, hd⟩ hl (x := its[i]) (by simp [hi]) fun h' hit' hs' => ?_
    obtain ⟨o', ho', hc', hd'⟩ := hit'
    refine go_plain (s := { s with heap := h' }) ho' hc' hd' (by decide +kernel) ?_
    refine hK its[i] h' s.toks [(I, o')] [] ⟨by simp [hi], rfl⟩ ⟨o', rfl, hc', hd', S⟩ (F.change hs' hI.2.1 hI.2.2) (fun p hp => ?_) (fun p hp => nomatch hp)
    rcases List.mem_cons.mp hp with rfl | hp
    · exact ⟨ho', hI.2⟩
    · have z := N p (.tail _ hp)
      exact ⟨hs'.extBut _ _ (fun e => off p hp (e ▸ .head _)) z.1, z.2⟩
  done := by
    rintro own news more m s K ⟨o, rfl, hc, hd, S⟩ F N off hK
    have hl := S.list F.keep (news_sub N fun p hp => List.mem_append.mpr (.inr (List.mem_append.mpr (.inl hp))))
    have hI := N (I, o) (.head _)
    refine wpAny_pyNext_list_end hh ⟨o, hI.1, hc, hd⟩ hl (by simp) fun h' he' => ?_
    refine hK h' s.toks ?_ fun p hp => ?_
    · exact fr_but F (fun b o hb e => he' b o (fun q => hb (by rw [q]; exact .head _)) e) (Ne.symm hI.2.1) hI.2.2
    · have z := N p (.tail _ hp)
      exact ⟨he' _ _ (fun e => off p hp (e ▸ .head _)) z.1, z.2⟩

theorem nextOk_tuple (hh : A.handled = none) : NextOk prog w A h₀ L target I [I] its.size (ItemP its) (TOk h₀ I ax its) where
  at_ := by
    rintro i own news ⟨o, rfl, _⟩ p hp
    rw [List.mem_singleton.mp hp]; exact .head _
  has := by
    rintro i own news ⟨o, rfl, _⟩ a ha
    rw [List.mem_singleton.mp ha]; exact ⟨o, .head _⟩
  item := by
    rintro i own news more m s K hi ⟨o, rfl, hc, hd, S⟩ F N off hK
    have hl := S.tup F.keep (news_sub N fun p hp => List.mem_append.mpr (.inr (List.mem_append.mpr (.inl hp))))
    have hI := N (I, o) (.head _)
    refine wpAny_pyNext_tuple_item ⟨o, hI.1, hc, hd⟩ hl (x := its[i]) (by simp [hi]) fun h' hit' hs' => ?_
    obtain ⟨o', ho', hc', hd'⟩ := hit'
    refine go_plain (s := { s with heap := h' }) ho' hc' hd' (by decide +kernel) ?_
    refine hK its[i] h' s.toks [(I, o')] [] ⟨by simp [hi], rfl⟩ ⟨o', rfl, hc', hd', S⟩ (F.change hs' hI.2.1 hI.2.2) (fun p hp => ?_) (fun p hp => nomatch hp)
    rcases List.mem_cons.mp hp with rfl | hp
    · exact ⟨ho', hI.2⟩
    · have z := N p (.tail _ hp)
      exact ⟨hs'.extBut _ _ (fun e => off p hp (e ▸ .head _)) z.1, z.2⟩
  done := by
    rintro own news more m s K ⟨o, rfl, hc, hd, S⟩ F N off hK
    have hl := S.tup F.keep (news_sub N fun p hp => List.mem_append.mpr (.inr (List.mem_append.mpr (.inl hp))))
    have hI := N (I, o) (.head _)
    refine wpAny_pyNext_tuple_end hh ⟨o, hI.1, hc, hd⟩ hl (by simp) fun h' he' => ?_
    refine hK h' s.toks ?_ fun p hp => ?_
    · exact fr_but F (fun b o hb e => he' b o (fun q => hb (by rw [q]; exact .head _)) e) (Ne.symm hI.2.1) hI.2.2
    · have z := N p (.tail _ hp)
      exact ⟨he' _ _ (fun e => off p hp (e ▸ .head _)) z.1, z.2⟩

noncomputable def ROk (I : Addr) (a : Int) (n : Nat) (i : Nat) (own _news : Led) : Prop := own = [(I, { cls := .type "range_iterator", dict := none, data := .fields #[rawInt (a + (i : Nat)), rawInt ((n : Int) - (i : Nat)), rawInt 1], slots := #[] })]
noncomputable def RangeP (a : Int) (i : Nat) (v : Value) (ext : Led) : Prop := (∃ t, v = .int (a + (i : Nat)) t) ∧ ext = []
theorem nextOk_range {a : Int} {n : Nat} (hh : A.handled = none) : NextOk prog w A h₀ L target I [I] n (RangeP a) (ROk I a n) where
  at_ := by
    rintro i own news rfl p hp
    rw [List.mem_singleton.mp hp]; exact .head _
  has := by
    rintro i own news rfl a ha
    rw [List.mem_singleton.mp ha]; exact ⟨_, .head _⟩
  item := by
    rintro i own news more m s K hi rfl F N off hK
    have hI := N _ (.head _)
    refine wpAny_pyNext_range_item (x := a + (i : Nat)) (left := (n : Int) - (i : Nat)) (step := 1) hI.1 (by omega) fun h' hit' hs' => ?_
    refine go_plain (s := { s with heap := h', toks := s.toks + 1 }) hit' rfl rfl (by decide +kernel) ?_
    have e1 : a + (i : Nat) + 1 = a + ((i + 1 : Nat) : Int) := by omega
    have e2 : (n : Int) - (i : Nat) - 1 = (n : Int) - ((i + 1 : Nat) : Int) := by omega
    rw [e1, e2] at hit'
    refine hK _ h' _ _ [] ⟨⟨_, rfl⟩, rfl⟩ rfl (F.change hs' hI.2.1 hI.2.2) (fun p hp => ?_) (fun p hp => nomatch hp)
    rcases List.mem_cons.mp hp with rfl | hp
    · exact ⟨hit', hI.2⟩
    · have z := N p (.tail _ hp)
      exact ⟨hs'.extBut _ _ (fun e => off p hp (e ▸ .head _)) z.1, z.2⟩
  done := by
    rintro own news more m s K rfl F N off hK
    have hI := N _ (.head _)
    refine wpAny_pyNext_range_end (x := a + (n : Nat)) (left := (n : Int) - (n : Nat)) (step := 1) hh hI.1 (by omega) fun h' he' => ?_
    refine hK h' s.toks ?_ fun p hp => ?_
    · exact fr_but F (fun b o hb e => he' b o (fun q => hb (by rw [q]; exact .head _)) e) (Ne.symm hI.2.1) hI.2.2
    · have z := N p (.tail _ hp)
      exact ⟨he' _ _ (fun e => off p hp (e ▸ .head _)) z.1, z.2⟩

noncomputable def enObj (it : Addr) (i : Int) (old : Value) : Obj := { cls := .type "enumerate", dict := none, data := .fields #[.none, .bool false, .ref it, rawInt i, .none, old], slots := #[] }
noncomputable def EOk (h₀ : Heap) (I it ax : Addr) (its : Array Value) (i : Nat) (own news : Led) : Prop := ∃ (o : Obj) (old : Value), own = [(I, enObj it (i : Nat) old), (it, o)] ∧ o.cls = .type "list_iterator" ∧ o.data = .fields #[.ref ax, .int i 0] ∧ SrcAt h₀ ax its news
noncomputable def EnumP (its : Array Value) (i : Nat) (v : Value) (ext : Led) : Prop := ∃ (T : Addr) (t : Tok) (x : Value), its[i]? = some x ∧ v = .ref T ∧ ext = [(T, { cls := .type "tuple", data := .seq #[.int (i : Nat) t, x] })]
theorem nextOk_enum {it : Addr} {elts : List PySem.Expr} {x1 : Nat} {tp : Pos} (hh : A.handled = none) (hne : I ≠ it) : NextOk prog w A h₀ L (.Tuple elts x1 tp) I [I, it] its.size (EnumP its) (EOk h₀ I it ax its) where
  at_ := by
    rintro i own news ⟨o, old, rfl, _⟩ p hp
    rcases List.mem_cons.mp hp with rfl | hp
    · exact .head _
    · rw [List.mem_singleton.mp hp]; exact .tail _ (.head _)
  has := by
    rintro i own news ⟨o, old, rfl, _⟩ a ha
    rcases List.mem_cons.mp ha with rfl | ha
    · exact ⟨_, .head _⟩
    · rw [List.mem_singleton.mp ha]; exact ⟨_, .tail _ (.head _)⟩
  item := by
    rintro i own news more m s K hi ⟨o, old, rfl, hc, hd, S⟩ F N off hK
    have hl := S.list F.keep (news_sub N fun p hp => List.mem_append.mpr (.inr (List.mem_append.mpr (.inl hp))))
    have hI := N (I, enObj it (i : Nat) old) (.head _)
    have hT := N (it, o) (.tail _ (.head _))
    have hIs : I < s.heap.objs.size := Heap.lt_size hI.1
    have hTs : it < s.heap.objs.size := Heap.lt_size hT.1
    have hLs : L < s.heap.objs.size := F.ns.lt
    refine wpAny_pyNext_enum_item (old := old) hI.1 ⟨o, hT.1, hc, hd⟩ hl (x := its[i]) (by simp [hi]) hne fun h₁ he₁ hit₁ ht₁ hz₁ hk₁ => ?_
    refine wpAny_letOwnedTupleGo_enum (s := { s with heap := h₁, toks := s.toks + 1 }) he₁ fun h₂ he₂ hs₂ => ?_
    replace hs₂ : Heap.SameBut I h₁ h₂ := hs₂
    obtain ⟨o', ho', hc', hd'⟩ := hit₁
    have keep : ∀ b o, b ≠ I → b ≠ it → s.heap.get? b = some o → h₂.get? b = some o := fun b o h1 h2 e => hs₂.extBut b o h1 (hk₁ b o h1 h2 e)
    have hT₀ : h₀.get? s.heap.objs.size = none := Heap.get?_none_of_le (Nat.le_trans F.above (Nat.le_of_lt hLs))
    have ei : (i : Int) + 1 = ((i + 1 : Nat) : Int) := by omega
    rw [ei] at he₂
    refine hK (.ref s.heap.objs.size) h₂ _ [(I, enObj it ((i + 1 : Nat) : Int) its[i]), (it, o')] [(s.heap.objs.size, _)] ⟨_, s.toks, its[i], by simp [hi], rfl, rfl⟩ ⟨o', _, rfl, hc', hd', S⟩ ?_ (fun p hp => ?_) (fun p hp => ?_)
    · exact ⟨F.ns.at' fun o e => keep L o (Ne.symm hI.2.1) (Ne.symm hT.2.1) e, fun b o e => keep b o (fun q => by rw [q, hI.2.2] at e; cases e) (fun q => by rw [q, hT.2.2] at e; cases e) (F.keep b o e), F.above⟩
    · rcases List.mem_cons.mp hp with rfl | hp
      · exact ⟨he₂, hI.2⟩
      · rcases List.mem_cons.mp hp with rfl | hp
        · exact ⟨hs₂.extBut _ _ (Ne.symm hne) ho', hT.2⟩
        · rcases List.mem_cons.mp hp with rfl | hp
          · exact ⟨hs₂.extBut _ _ (Nat.ne_of_gt hIs) ht₁, Nat.ne_of_gt hLs, hT₀⟩
          · have z := N p (.tail _ (.tail _ hp))
            exact ⟨keep _ _ (fun e => off p hp (e ▸ .head _)) (fun e => off p hp (.tail _ (e ▸ .head _))) z.1, z.2⟩
    · rw [List.mem_singleton.mp hp]; exact Nat.le_refl _
  done := by
    rintro own news more m s K ⟨o, old, rfl, hc, hd, S⟩ F N off hK
    have hl := S.list F.keep (news_sub N fun p hp => List.mem_append.mpr (.inr (List.mem_append.mpr (.inl hp))))
    have hI := N (I, enObj it (its.size : Nat) old) (.head _)
    have hT := N (it, o) (.tail _ (.head _))
    refine wpAny_pyNext_enum_end (old := old) hh hI.1 ⟨o, hT.1, hc, hd⟩ hl (by simp) fun h' he' => ?_
    refine hK h' s.toks ?_ fun p hp => ?_
    · exact fr_but F (fun b o hb e => he' b o (fun q => hb (by rw [q]; exact .head _)) e) (Ne.symm hT.2.1) hT.2.2
    · have z := N p (.tail _ (.tail _ hp))
      exact ⟨he' _ _ (fun e => off p hp (.tail _ (e ▸ .head _))) z.1, z.2⟩

theorem iter_list {K : Value → Shared → Prop} (F : Fr h₀ L s.heap m) (N : News h₀ L s.heap news) (S : SrcAt h₀ ax its news)
    (h : ∀ h' I own, Fr h₀ L h' m → News h₀ L h' (own ++ news) → Off [I] news → LOk h₀ I ax its 0 own news → K (.ref I) { s with heap := h' }) : wpAny (model prog w) A (pyIter (.ref ax)) K E s := by
  refine wpAny_pyIter_list (S.list F.keep N) (h _ _ [(s.heap.objs.size, _)] (F.push _) (News.push F N _) (fun p hp ha => ?_) ⟨_, rfl, rfl, rfl, S⟩)
  rw [List.mem_singleton] at ha
  exact absurd (Heap.lt_size (N p hp).1) (by rw [ha]; exact Nat.lt_irrefl _)
theorem iter_tuple {K : Value → Shared → Prop} (F : Fr h₀ L s.heap m) (N : News h₀ L s.heap news) (S : TSrcAt h₀ ax its news)
    (h : ∀ h' I own, Fr h₀ L h' m → News h₀ L h' (own ++ news) → Off [I] news → TOk h₀ I ax its 0 own news → K (.ref I) { s with heap := h' }) : wpAny (model prog w) A (pyIter (.ref ax)) K E s := by
  refine wpAny_pyIter_tuple (S.tup F.keep N) (h _ _ [(s.heap.objs.size, _)] (F.push _) (News.push F N _) (fun p hp ha => ?_) ⟨_, rfl, rfl, rfl, S⟩)
  rw [List.mem_singleton] at ha
  exact absurd (Heap.lt_size (N p hp).1) (by rw [ha]; exact Nat.lt_irrefl _)
theorem iter_range {K : Value → Shared → Prop} {r : Addr} {a b : Int} {n : Nat} {t u v : Tok} (F : Fr h₀ L s.heap m) (N : News h₀ L s.heap news) (hr : IsRange s.heap r a b 1 t u v) (hsm : Builtin.Range.small a b 1 = true) (hn : Builtin.Range.rangeSize a b 1 = ((n : Nat) : Int))
    (h : ∀ h' I own, Fr h₀ L h' m → News h₀ L h' (own ++ news) → Off [I] news → ROk I a n 0 own news → K (.ref I) { s with heap := h' }) : wpAny (model prog w) A (pyIter (.ref r)) K E s := by
  refine wpAny_pyIter_range hr hsm (h _ _ [(s.heap.objs.size, _)] (F.push _) (News.push F N _) (fun p hp ha => ?_) ?_)
  · rw [List.mem_singleton] at ha
    exact absurd (Heap.lt_size (N p hp).1) (by rw [ha]; exact Nat.lt_irrefl _)
  · show [_] = [_]
    rw [hn]; simp
theorem self_list {its : Array Value} : ∀ (s : Shared) own news, LOk h₀ I ax its 0 own news → News h₀ L s.heap (own ++ news) → ∀ Q : Value → Shared → Prop, Q (.ref I) s → wpAny (model prog w) A (pyIter (.ref I)) Q NoE s := by
  rintro s own news ⟨o, rfl, hc, hd, _⟩ N Q h
  exact wpAny_pyIter_listiter ⟨o, (N _ (.head _)).1, hc, hd⟩ h
theorem self_tuple {its : Array Value} : ∀ (s : Shared) own news, TOk h₀ I ax its 0 own news → News h₀ L s.heap (own ++ news) → ∀ Q : Value → Shared → Prop, Q (.ref I) s → wpAny (model prog w) A (pyIter (.ref I)) Q NoE s := by
  rintro s own news ⟨o, rfl, hc, hd, _⟩ N Q h
  exact wpAny_pyIter_tupleiter ⟨o, (N _ (.head _)).1, hc, hd⟩ h
theorem self_range {a : Int} {n : Nat} : ∀ (s : Shared) own news, ROk I a n 0 own news → News h₀ L s.heap (own ++ news) → ∀ Q : Value → Shared → Prop, Q (.ref I) s → wpAny (model prog w) A (pyIter (.ref I)) Q NoE s := by
  rintro s own news rfl N Q h
  exact wpAny_pyIter_rangeiter (N _ (.head _)).1 h
theorem self_enum {it : Addr} {its : Array Value} : ∀ (s : Shared) own news, EOk h₀ I it ax its 0 own news → News h₀ L s.heap (own ++ news) → ∀ Q : Value → Shared → Prop, Q (.ref I) s → wpAny (model prog w) A (pyIter (.ref I)) Q NoE s := by
  rintro s own news ⟨o, old, rfl, _⟩ N Q h
  exact wpAny_pyIter_enum (N _ (.head _)).1 h

theorem enum_new {K : Value → Shared → Prop} (F : Fr h₀ L s.heap m) (N : News h₀ L s.heap news) (S : SrcAt h₀ ax its news)
    (h : ∀ h' e it own, e ≠ it → Fr h₀ L h' m → News h₀ L h' (own ++ news) → Off [e, it] news → EOk h₀ e it ax its 0 own news → K (.ref e) { s with heap := h' }) : wpAny (model prog w) A (call (.type "enumerate") [.ref ax]) K E s := by
  have hLs : L < s.heap.objs.size := F.ns.lt
  refine call_enumerate_list (S.list F.keep N) fun h' he hit hz hk => ?_
  obtain ⟨o, ho, hc, hd⟩ := hit
  have none₀ : ∀ a, s.heap.objs.size ≤ a → h₀.get? a = none := fun a ha => Heap.get?_none_of_le (Nat.le_trans F.above (Nat.le_trans (Nat.le_of_lt hLs) ha))
  refine h h' (s.heap.objs.size + 1) s.heap.objs.size [(s.heap.objs.size + 1, enObj s.heap.objs.size ((0 : Nat) : Int) .none), (s.heap.objs.size, o)] (Nat.ne_of_gt (Nat.lt_succ_self _)) (F.keeps hk) (fun p hp => ?_) (fun p hp ha => ?_) ⟨o, _, rfl, hc, hd, S⟩
  · rcases List.mem_cons.mp hp with rfl | hp
    · exact ⟨he, Nat.ne_of_gt (Nat.lt_succ_of_lt hLs), none₀ _ (Nat.le_succ _)⟩
    · rcases List.mem_cons.mp hp with rfl | hp
      · exact ⟨ho, Nat.ne_of_gt hLs, none₀ _ (Nat.le_refl _)⟩
      · exact ⟨hk _ _ (N p hp).1, (N p hp).2⟩
  · have := Heap.lt_size (N p hp).1
    simp only [List.mem_cons, List.not_mem_nil, or_false] at ha
    rcases ha with e | e
    · rw [e] at this; exact absurd this (Nat.not_lt.mpr (Nat.le_succ _))
    · rw [e] at this; exact Nat.lt_irrefl _ this
end
end Mine
end
section
open PySem PySem.W PyProof.Rows PySem.Calls PyProof.Rows.LCg
set_option Elab.async false
set_option maxRecDepth 100000
set_option maxHeartbeats 1000000
namespace Mine
theorem set_back_MAsg : True := by w_top off; trivial
section
variable {prog : Program} {w : World} {A : Around} {E : Value → Shared → Prop} {s : Shared} {env : Env} {h₀ : Heap} {L C : Addr} {m mC : Str → Option Value} {news : Led} {oC : Obj} {scope : Scope} {cl : List (Str × Addr)}

theorem assign_pair {x y : Str} {px py pos : Pos} {x1 : Nat} {T : Addr} {v1 v2 : Value} {Q : Unit → Shared → Prop} (hh : A.handled = none) (F : Fr h₀ L s.heap m) (N : News h₀ L s.heap news) (S : TSrcAt h₀ T #[v1, v2] news)
    (h : ∀ h', Fr h₀ L h' m → News h₀ L h' news → wpAny (model prog w) A (storeName env x v1) (fun _ s₁ => wpAny (model prog w) A (storeName env y v2) Q E s₁) E { s with heap := h' }) :
    wpAny (model prog w) A (assign (.Tuple [.Name x px, .Name y py] x1 pos) env (.ref T)) Q E s := by
  refine wpAny_assign_Tuple hh (S.tup F.keep N) rfl rfl fun h' hx => ?_
  have keep : ∀ b o, s.heap.get? b = some o → h'.get? b = some o := fun b o e => hx b o (Nat.ne_of_lt (Heap.lt_size e)) e
  show wpAny _ A (do holding [v2] (assign (.Name x px) env v1); do holding [] (assign (.Name y py) env v2); pure ()) _ _ _
  refine wpAny_bind (wpAny_holding (wpAny_assign_Name (wpAny_mono (h h' (F.keeps keep) (N.grown keep)) (fun _ s₁ h₁ => ?_) fun _ _ e => e)))
  exact wpAny_bind (wpAny_holding (wpAny_assign_Name (wpAny_mono h₁ (fun _ s₂ h₂ => wpAny_pure h₂) fun _ _ e => e)))

theorem store_comp {x : Str} {v : Value} {Q : Unit → Shared → Prop} (F : Fr h₀ L s.heap m) (N : News h₀ L s.heap ((C, oC) :: news)) (hoC : NsObj oC mC) (off : ∀ p ∈ news, p.1 ≠ C)
    (h : ∀ h' oC', NsObj oC' (fun z => if z = x then some v else mC z) → Fr h₀ L h' m → News h₀ L h' ((C, oC') :: news) → Q () { s with heap := h', toks := s.toks + 1 })
    (hx : scope.names.lookup x = some .local) (hkind : scope.kind = .function) :
    wpAny (model prog w) A (storeName (compEnvC scope cl C env) x v) Q E s := by
  have nC := N (C, oC) (.head _)
  refine wpAny_storeName_local (lookup_relabel_local hx) (hoC.ns nC.1) (fun h' hn hs => ?_) (by simp [compEnvC, relabel, hkind])
  obtain ⟨oC', he, hoC'⟩ := ns_obj hn
  refine h h' oC' hoC' (F.change hs nC.2.1 nC.2.2) fun p hp => ?_
  rcases List.mem_cons.mp hp with rfl | hp
  · exact ⟨he, nC.2⟩
  · exact ⟨hs.extBut _ _ (off p hp) (N p (.tail _ hp)).1, (N p (.tail _ hp)).2⟩
theorem assign_comp {x : Str} {px : Pos} {v : Value} {Q : Unit → Shared → Prop} (F : Fr h₀ L s.heap m) (N : News h₀ L s.heap ((C, oC) :: news)) (hoC : NsObj oC mC) (off : ∀ p ∈ news, p.1 ≠ C)
    (h : ∀ h' oC', NsObj oC' (fun z => if z = x then some v else mC z) → Fr h₀ L h' m → News h₀ L h' ((C, oC') :: news) → Q () { s with heap := h', toks := s.toks + 1 })
    (hx : scope.names.lookup x = some .local) (hkind : scope.kind = .function) :
    wpAny (model prog w) A (assign (.Name x px) (compEnvC scope cl C env) v) Q E s := wpAny_assign_Name (store_comp F N hoC off h hx hkind)

/-- what a turn's ledger lies off -/
theorem off_comp {D : Addr} {oD : Obj} {ext news₁ own : Led} {ads : List Addr} (hCD : @Ne Nat C D ∧ C ∉ ads ∧ D ∉ ads) (off : Off (C :: D :: ads) news₁) (hext : ∀ p ∈ ext, p.1 ∉ C :: D :: ads ∧ p.1 ≠ L ∧ ∀ q ∈ news₁, q.1 < p.1) (hown : ∀ p ∈ own, p.1 ∈ ads) :
    ∀ p ∈ (D, oD) :: (ext ++ (news₁ ++ own)), p.1 ≠ C := by
  intro p hp
  rcases List.mem_cons.mp hp with rfl | hp
  · exact Ne.symm hCD.1
  · rcases List.mem_append.mp hp with hp | hp
    · exact fun e => (hext p hp).1 (e ▸ .head _)
    · rcases List.mem_append.mp hp with hp | hp
      · exact fun e => off p hp (e ▸ .head _)
      · exact fun e => hCD.2.1 (e ▸ hown p hp)
end
end Mine
end
section
open PySem PySem.W PyProof.Rows PySem.Calls
set_option Elab.async false
set_option maxRecDepth 100000
set_option maxHeartbeats 8000000
namespace Mine
theorem set_back_MHeap1 : True := by w_top off; trivial
theorem words_MHeap1 : True := by
  k_with_none
  k_with "m enter" => ((   (case kA => assumption); (case kF => assumption); (case kK => assumption); (case k1 => assumption); (case k2 => assumption); (case k3 => assumption); (case k4 => assumption); (case k5 => assumption);   (case k6 => k_is); (case k7 => k_is); (case k8 => k_room); (case k9 => exact BindsTo.of_eq rfl); (case c5 => decide); (case kB => exact locs rfl); (case c2 => exact rfl); (case c3 => exact rfl); (case c4 => exact rfl)))
  k_with "m get" => ((repeat (first | assumption | exact get_eq | refine get_ne (by decide) ?_ | rfl)))
  k_with "eval Name" => ((k_here; k_dflt (refine' ld ?z9k1 ?z9k2 ?_; (case z9k1 => k_asm); (case z9k2 => walk_at "m get"); k_whole)))
  k_with "subscriptTail" => (((with_reducible show wpAny _ _ (subscriptTail _ _ (Value.ref _) (Value.int _ _)) _ _ _); (refine' item_h ?z9k1 ?z9k2 ?z9k3 ?z9k4 ?_; (case z9k1 => assumption); (case z9k2 => omega); (case z9k3 => omega); (case z9k4 => assumption); k_whole)))
  k_with "setItem ref int" => ((((with_reducible show wpAny _ _ (setItem (Value.ref _) (Value.int _ _) _) _ _ _); (refine' setItem_h ?z9k1 ?z9k2 ?z9k3 ?z9k4 ?z9k5 ?z9k6 ?_; (case z9k1 => assumption); (case z9k2 => assumption); (case z9k3 => assumption); (case z9k4 => omega); (case z9k5 => assumption); (case z9k6 => omega); k_whole); intro h' F' N'); revert h' F' N'; intro _ _ _))
  k_with "call builtin:len" => (((with_reducible show wpAny _ _ (call (Value.builtin _) [Value.ref _]) _ _ _); (refine' len_h ?z9k1 ?z9k2 ?_; (case z9k1 => assumption); (case z9k2 => first | assumption | (simp only [List.length_append, List.length_cons, List.length_nil]; omega)); k_whole)))
  k_with "call builtin:list.append" => ((((with_reducible show wpAny _ _ (call (Value.builtin _) [Value.ref _, _]) _ _ _); (refine' append_h ?z9k1 ?z9k2 ?z9k3 ?z9k4 ?_; (case z9k1 => assumption); (case z9k2 => assumption); (case z9k3 => assumption); (case z9k4 => omega); k_whole); intro h' F' N'); revert h' F' N'; intro _ _ _))
  k_with "call builtin:list.pop" => ((((with_reducible show wpAny _ _ (call (Value.builtin _) [Value.ref _]) _ _ _); (refine' pop_h ?z9k1 ?z9k2 ?z9k3 ?z9k4 ?_; (case z9k1 => assumption); (case z9k2 => assumption); (case z9k3 => assumption); (case z9k4 => omega); k_whole); intro h' F' N'); revert h' F' N'; intro _ _ _))
  trivial
theorem shr1 {k : Nat} (h : 1 ≤ k) : ((k : Int) - 1).fdiv (2 ^ Int.toNat 1) = (((k - 1) / 2 : Nat) : Int) := by
  have e : ((k : Int) - 1) = ((k - 1 : Nat) : Int) := by omega
  have e2 : ((2 : Int) ^ Int.toNat 1) = 2 := rfl
  rw [e, e2, Int.fdiv_eq_ediv_of_nonneg _ (by decide)]; omega
noncomputable def CmpOk (w : World) (rest : List (Addr × Obj)) (vs : List Value) (lt : Value → Value → Bool) : Prop :=
  ∀ v ∈ vs, ∀ u ∈ vs, ∀ (A : Around) (s : Shared) (E : Value → Shared → Prop) (Q : Value → Shared → Prop), A.units < 900 → (∀ p ∈ rest, s.heap.get? p.1 = some p.2) → Q (.bool (lt v u)) s →
    wpAny (model PySem.Challenge.rw_nq0047_02.row.prog w) A (compareOp .Lt v u) Q E s

theorem siftdown_K {w : World} {A A₀ : Around} {s : Shared} {h₀ base : Heap} {outer : List Env} {L : Addr} {m mg mb : Str → Option Value} {mean : ExcName → Option Value} {p : Program} {loose : List Str} {rest : List (Addr × Obj)} {env : Env} {R : Result → Shared → Prop}
 {a : Addr} {xs : List Value} {x : Value} {lt : Value → Value → Bool} {n : Nat} {t1 t2 : Tok} {pos : Nat}
 (B : Below A₀ base outer h₀) (F : Fr h₀ L s.heap m) (X₀ : (Mine.hd.heap_1 w.params).In h₀) (N : News h₀ L s.heap ((a, listOf xs.toArray n) :: rest)) (T : Top p loose mean mg mb h₀) (hA : A.frames = some (env :: outer)) (hf : env.frame = some L) (hke : env.scope.kind = .function)
 (hd : A.depth < 900) (hu : A.units < 500) (hrest : ∀ p ∈ rest, p.1 ≠ a) (hx : xs[pos]? = some x) (hlen : xs.length < 1000) (hc : CmpOk w rest xs lt)
 (h : ∀ h' t', Fr h₀ L h' m → News h₀ L h' ((a, listOf (sdn lt x xs pos).toArray n) :: rest) → R (.ok (.ret .none)) { s with heap := h', toks := t' }) :
 codeAny (model PySem.Challenge.rw_nq0047_02.row.prog w) A (.call (.ref 49) ⟨[.ref a, .int 0 t1, .int pos t2], []⟩) R s := by
  revert X₀
  k_fill
  intro X₀
  have hpos : pos < xs.length := (List.getElem?_eq_some_iff.mp hx).1
  have hxm : x ∈ xs := List.mem_of_getElem? hx
  refine' code_def (binds := [(Str.ofString "heap", .ref a), (Str.ofString "startpos", .int 0 t1), (Str.ofString "pos", .int pos t2)]) ?k1 ?k2 ?k3 ?k4 ?k5 ?kA ?kF ?kK ?k6 ?k7 ?k8 ?k9 ?kB ?_ ?c2 ?c3 ?c4 ?c5
  walk_at "m enter"
  intro g' L' h' FG' F' N' B' X' T'
  clear F N B X₀ T
  refine wpAny_noRaise ?_
  k_fold
  iterate 6 walk1
  refine item_h N' (by omega) (by omega) hx ?_
  iterate 2 walk1
  refine whl_ind (fun (c : List Value × Nat) s' => ∃ h tk m, s' = { s with heap := h, toks := tk } ∧ Fr g' L' h m ∧ News g' L' h ((a, listOf c.1.toArray n) :: rest) ∧ m (Str.ofString "heap") = some (.ref a) ∧ (∃ t, m (Str.ofString "startpos") = some (.int 0 t)) ∧ (∃ t, m (Str.ofString "pos") = some (.int c.2 t)) ∧ m (Str.ofString "newitem") = some x ∧ c.2 < c.1.length ∧ c.1.length = xs.length ∧ (∀ v ∈ c.1, v ∈ xs) ∧ sdn lt x c.1 c.2 = sdn lt x xs pos) (fun c => c.2) PassesOwn.never ?_ (xs, pos) ?_
  · rintro ⟨ys, k⟩ s' ⟨h1, tk1, m1, rfl, F1, N1, e1, ⟨t3, e2⟩, ⟨t4, e3⟩, e4, hk, hl, hin, hs⟩
    dsimp only at *
    by_cases hk0 : k = 0
    · subst hk0
      iterate 5 walk1
      refine ite_neg (by decide) ?_
      iterate 5 (first | walk1 | (dsimp only; walk1))
      refine setItem_h (by assumption) (by assumption) hrest (by omega) hk (by omega) ?_
      intro h2 F2 N2
      iterate 1 (first | walk1 | (dsimp only; walk1))
      refine leaveK_ F2 N2 fun kF kN => h _ _ kF ?_
      rw [← hs, sdn_zero]; exact kN
    · obtain ⟨p, hp⟩ : ∃ p, ys[(k - 1) / 2]? = some p := ⟨ys[(k-1)/2], by simp⟩
      iterate 5 walk1
      refine ite_pos (by simp; omega) ?_
      iterate 9 walk1
      rw [shr1 (by omega)]
      iterate 6 (first | walk1 | (dsimp only; walk1))
      refine item_h (by assumption) (by omega) (by omega) hp ?_
      iterate 6 (first | walk1 | (dsimp only; walk1))
      refine hc x hxm p (hin p (List.mem_of_getElem? hp)) _ _ _ _ ?_ ?_ ?_
      · show A.units + 3 < 900; omega
      · rename_i N9
        exact fun q hq => (N9 q (.tail _ hq)).1
      cases hlt : lt x p with
      | true =>
        iterate 8 (first | walk1 | (dsimp only; walk1))
        refine setItem_h (by assumption) (by assumption) hrest (by omega) hk (by omega) ?_
        intro h2 F2 N2
        iterate 6 (first | walk1 | (dsimp only; walk1))
        rename_i h3 F3 N3
        refine ⟨(ys.set k p, (k - 1) / 2), by dsimp only; omega, h3, _, _, rfl, F3, N3, ?_, ⟨t3, ?_⟩, ⟨?tb, ?hb⟩, ?_, ?_, ?_, ?_, ?_⟩
        case hb => walk_at "m get"
        · walk_at "m get"
        · walk_at "m get"
        · walk_at "m get"
        · dsimp only; rw [List.length_set]; omega
        · dsimp only; rw [List.length_set]; exact hl
        · intro v hv
          rcases List.mem_or_eq_of_mem_set hv with hv | rfl
          · exact hin v hv
          · exact hin _ (List.mem_of_getElem? hp)
        · rw [← hs, sdn_up lt hk0 hp hlt]
      | false =>
        iterate 6 (first | walk1 | (dsimp only; walk1))
        dsimp only [WStep]
        iterate 5 (first | walk1 | (dsimp only; walk1))
        refine setItem_h (by assumption) (by assumption) hrest (by omega) hk (by omega) ?_
        intro h2 F2 N2
        iterate 1 (first | walk1 | (dsimp only; walk1))
        refine leaveK_ F2 N2 fun kF kN => h _ _ kF ?_
        rw [← hs, sdn_stay lt hk0 hp hlt]; exact kN
  · rename_i h3 F3 N3
    refine ⟨h3, _, _, rfl, F3, N3, ?_, ⟨t1, ?_⟩, ⟨t2, ?_⟩, ?_, hpos, rfl, fun _ h => h, rfl⟩
    · walk_at "m get"
    · walk_at "m get"
    · walk_at "m get"
    · walk_at "m get"
end Mine
end
section
open PySem PySem.W PyProof.Rows PySem.Calls PyProof.Rows.LCg
set_option Elab.async false
set_option maxRecDepth 100000
set_option maxHeartbeats 1000000
namespace Mine
theorem set_back_MSet1 : True := by w_top off; trivial

theorem erase_perm {α : Type} : ∀ (l : List α) (i : Nat) (x : α), l[i]? = some x → (x :: l.eraseIdx i).Perm l
  | [], i, x, h => by simp at h
  | a :: l, 0, x, h => by simp at h; subst h; simp
  | a :: l, i + 1, x, h => by
    simp only [List.getElem?_cons_succ] at h
    rw [List.eraseIdx_cons_succ]
    exact (List.Perm.swap a x _).trans ((erase_perm l i x h).cons a)

theorem pick_perm {α : Type} (next : Nat → Nat) : ∀ (n k : Nat) (left : List α) (out : Array α), left.length = n → (pickOrder.go next n k left out).toList.Perm (out.toList ++ left)
  | 0, k, left, out, h => by
    obtain rfl := List.length_eq_zero_iff.mp h
    simp [pickOrder.go]
  | n + 1, k, left, out, h => by
    unfold pickOrder.go
    have hlt : next k % left.length < left.length := Nat.mod_lt _ (by omega)
    rw [List.getElem?_eq_getElem hlt]
    dsimp only
    have hp := erase_perm left (next k % left.length) _ (List.getElem?_eq_getElem hlt)
    refine (pick_perm next n (k + 1) _ _ (by have := hp.length_eq; simp at this; omega)).trans ?_
    rw [Array.toList_push, List.append_assoc]
    exact List.Perm.append_left _ hp

section
variable {prog : Program} {w : World} {A : Around} {E : Value → Shared → Prop} {s : Shared} {h₀ : Heap} {L I ax : Addr} {m : Str → Option Value} {news : Led} {target : PySem.Expr}

theorem choose_any {M : Model} {src : Source} {n : Nat} {Q : Nat → Shared → Prop} (hn : n ≠ 0) (h : ∀ i d, i < n → Q i { s with drawn := d }) : wpAny M A (choose src n) Q E s := by
  intro Γ p _
  unfold choose
  rw [Sem.wp_choose]
  refine ⟨hn, ?_⟩
  rw [Sem.wp_pure]
  exact h _ _ (Nat.mod_lt _ (Nat.pos_of_ne_zero hn))

theorem drawOrder_any {α : Type} {M : Model} : ∀ (n : Nat) (xs : List α) (s : Shared) (Q : List α → Shared → Prop), xs.length = n → (∀ ys d, ys.Perm xs → Q ys { s with drawn := d }) → wpAny M A (drawOrder n xs) Q E s
  | 0, xs, s, Q, h, hQ => by
    unfold drawOrder
    obtain rfl := List.length_eq_zero_iff.mp h
    exact wpAny_pure (hQ [] s.drawn (List.Perm.refl _))
  | n + 1, [], s, Q, h, hQ => by simp at h
  | n + 1, x :: xs, s, Q, h, hQ => by
    unfold drawOrder
    refine wpAny_bind (choose_any (by simp) fun i d hi => ?_)
    rw [List.getElem?_eq_getElem hi]
    dsimp only
    have hp := erase_perm (x :: xs) i _ (List.getElem?_eq_getElem hi)
    refine wpAny_bind (drawOrder_any n _ _ _ (by have := hp.length_eq; simp at this h ⊢; omega) fun ys d' hy => ?_)
    exact wpAny_pure (hQ _ d' ((hy.cons _).trans hp))

theorem slot_setit_next : Slot "set_iterator" "__next__" "set_iterator.__next__" :=
  .of (owner := "set_iterator") (n := "__next__") (by rw [typeLookup_type, builtinLookup_eq_fast]; kernel_rfl) (by decide +kernel) (by decide +kernel) (by decide +kernel)
    (by first | exact .inl (by decide +kernel) | exact .inr (by decide +kernel)) (by rw [isSubtype_type]; kernel_rfl)
theorem entry_setit_next : entryFor table "set_iterator.__next__" = some Builtin.«set_iterator.__next__» := entryFor_of_tree (by kernel_rfl)
theorem entry_set_iter : entryFor table "set.__iter__" = some Builtin.«frozenset.__iter__» :=
  entryFor_alias (id' := "frozenset.__iter__") (by kernel_rfl) rfl (by decide +kernel) (by kernel_rfl)
end
end Mine
end
section
open PySem PySem.W PyProof.Rows PySem.Calls PyProof.Rows.LCg
set_option Elab.async false
set_option maxRecDepth 100000
set_option maxHeartbeats 1000000
namespace Mine
theorem set_back_MSet2 : True := by w_top off; trivial
theorem owner_setit : Manifest.owners.lookup (String.ofList ['r', 'o', 't', 'a', 'r', 'e', 't', 'i', '_', 't', 'e', 's'].reverse) = some Manifest.sig_set_iterator := by kernel_rfl
theorem args_setit_next_1 (a : Value) : argsOk "set_iterator.__next__" ⟨[a], []⟩ := by
  unfold argsOk; rw [signature?_of (id := "set_iterator.__next__") (n := ['_', '_', 't', 'x', 'e', 'n', '_', '_']) (o := ['r', 'o', 't', 'a', 'r', 'e', 't', 'i', '_', 't', 'e', 's']) (by kernel_rfl) owner_setit]; kernel_rfl

/-- a set's object: its elements, its epoch, its table; as this program makes sets of strs -/
noncomputable def SetIs (w : World) (o : Obj) (es : Array (Int × Value)) (ep : Nat) (t : SetTable) : Prop :=
  o.ExactSet ∧ o.data = .set es ep t ∧ t.fits es.size = true ∧ (es.size = 0 ∨ (t.led = !w.params.followText "set-order") ∧ t.plain = false)

section
variable {prog : Program} {w : World} {A : Around} {E : Value → Shared → Prop} {s : Shared} {h₀ : Heap} {L I ax sa : Addr} {m : Str → Option Value} {news : Led} {target : PySem.Expr} {so : Obj} {es : Array (Int × Value)} {ep : Nat} {t : SetTable}

theorem wif_pos {α : Type} {M : Model} {c : Prop} [Decidable c] {a b : Sem α} {Q : α → Shared → Prop} (hc : c) (h : wpAny M A a Q E s) : wpAny M A (if c then a else b) Q E s := by rw [if_pos hc]; exact h
theorem wif_neg {α : Type} {M : Model} {c : Prop} [Decidable c] {a b : Sem α} {Q : α → Shared → Prop} (hc : ¬ c) (h : wpAny M A b Q E s) : wpAny M A (if c then a else b) Q E s := by rw [if_neg hc]; exact h
/-- a field set -/
theorem fields_set {a : Addr} {o : Obj} {vs : Array Value} {i : Nat} {x : Value} {h : Heap} (ho : h.get? a = some o) (hd : o.data = .fields vs) :
    (h.update a (Obj.mapFields (·.setIfInBounds i x))).get? a = some (Obj.mapFields (·.setIfInBounds i x) o) ∧ (Obj.mapFields (·.setIfInBounds i x) o).cls = o.cls ∧ (Obj.mapFields (·.setIfInBounds i x) o).data = .fields (vs.setIfInBounds i x) :=
  ⟨Heap.get?_update_self _ ho (Obj.isFreed_of_fields (Obj.data_mapFields hd _)), Obj.cls_mapFields .., Obj.data_mapFields hd _⟩

noncomputable def nextOf (w : World) (es : Array (Int × Value)) (sa ep : Nat) (t : SetTable) (slot i : Nat) : Option (Value × Nat) :=
  if w.params.followText "set-order" then ((pickOrder (w.params.setOrder sa ep) es)[i]?).map fun e => (e.2, slot)
  else match es[SetTable.below t.place slot]?, t.place[SetTable.below t.place slot]? with
    | some (_, x), some j => some (x, j + 1)
    | _, _ => none

theorem setWalk_text {Q : Array (Int × Value) → Shared → Prop} (ho : s.heap.get? sa = some so) (hs : SetIs w so es ep t) (hb : w.params.followText "set-order" = true)
    (h : Q (pickOrder (w.params.setOrder sa ep) es) s) : wpAny (model prog w) A (setWalk sa) Q E s := by
  unfold setWalk setsByText
  refine wpAny_bind (wpAny_setState_of ho hs.2.1 hs.2.2.1 ?_)
  refine wpAny_bind (wpAny_bind (wpAny_askSetting (wpAny_pure ?_)))
  refine wif_pos hb ?_
  exact wpAny_bind (wpAny_askSetting (wpAny_pure h))

theorem setNext_any {slot i : Nat} {Q : Option (Value × Nat) → Shared → Prop} (ho : s.heap.get? sa = some so) (hs : SetIs w so es ep t) (hb : w.params.followText "set-order" = true ∨ es.size ≤ 1)
    (h : Q (nextOf w es sa ep t slot i) s) : wpAny (model prog w) A (setNext sa slot i ep) Q E s := by
  unfold setNext
  refine wpAny_bind (wpAny_setState_of ho hs.2.1 hs.2.2.1 ?_)
  unfold setsByText
  refine wpAny_bind (wpAny_bind (wpAny_askSetting (wpAny_pure ?_)))
  unfold nextOf at h
  by_cases hb1 : w.params.followText "set-order" = true
  · refine wif_pos hb1 ?_
    rw [if_pos hb1] at h
    refine wif_neg (by simp) ?_
    exact wpAny_bind (setWalk_text ho hs hb1 (wpAny_pure h))
  · refine wif_neg hb1 ?_
    rw [if_neg hb1] at h
    have hsz : es.size ≤ 1 := hb.resolve_left hb1
    refine wif_neg (show ¬ ((!t.plain && decide (es.size > 1)) = true) by simp; omega) ?_
    have hl : es.size = 0 ∨ t.led = true := hs.2.2.2.imp id fun x => by rw [x.1]; simpa using hb1
    refine wpAny_bind ?_
    refine wif_neg (show ¬ ((!t.led && !es.isEmpty) = true) by rcases hl with hl | hl <;> simp [hl, Array.isEmpty]) ?_
    refine wpAny_pure ?_
    refine wpAny_pure ?_
    exact h

theorem setNext_item {it : Addr} {o : Obj} {slot i : Nat} {x : Value} {nx : Nat} {Q : Option Value → Shared → Prop} (hi : s.heap.get? it = some o) (hc : o.cls = .type "set_iterator") (hd : o.data = .fields #[rawInt slot, rawInt i, .ref sa, rawInt es.size, rawInt ep])
    (ho : s.heap.get? sa = some so) (hs : SetIs w so es ep t) (hb : w.params.followText "set-order" = true ∨ es.size ≤ 1) (hx : nextOf w es sa ep t slot i = some (x, nx))
    (hQ : ∀ h' o', h'.get? it = some o' → o'.cls = .type "set_iterator" → o'.data = .fields #[rawInt nx, rawInt ((i + 1 : Nat) : Int), .ref sa, rawInt es.size, rawInt ep] → Heap.SameBut it s.heap h' → Q (some x) { s with heap := h' }) :
    wpAny (model prog w) A (pyNext (.ref it)) Q E s := by
  have hT : s.TypeIs (.ref it) "set_iterator" := ⟨o, hi, hc⟩
  unfold pyNext
  refine wpAny_bind (wpAny_attempt (wpAny_callSpecial?_slot (name := Str.ofString "__next__") hT slot_setit_next
    (wpAny_call_entry slot_setit_next hT entry_setit_next ?_ (args_setit_next_1 _))))
  show wpAny _ _ (fieldsOf (.ref it) >>= _) _ _ s
  refine wpAny_bind (wpAny_fieldsOf hi hd ?_)
  show wpAny _ _ (setEntries sa >>= _) _ _ s
  refine wpAny_bind (wpAny_setEntries_of ho hs.2.1 hs.2.2.1 ?_)
  refine wif_neg (by simp) ?_
  show wpAny _ _ (setNext sa (Int.toNat slot) (Int.toNat i) (Int.toNat ep) >>= _) _ _ s
  refine wpAny_bind (setNext_any ho hs hb ?_)
  simp only [Int.toNat_natCast, hx]
  obtain ⟨h1, hc1, hd1⟩ := fields_set (i := 0) (x := rawInt nx) hi hd
  refine wpAny_bind (wpAny_setField hi hd (by simp) ?_)
  have hr := fields_set (i := 1) (x := rawInt ((i : Int) + 1)) h1 hd1
  refine wpAny_bind (wpAny_setField (s := { s with heap := _ }) h1 hd1 (by simp) (wpAny_pure ⟨x, rfl, wpAny_pure (hQ _ _ hr.1 (hr.2.1.trans (hc1.trans hc)) (by rw [hr.2.2]; rfl) ((Heap.SameBut.update ..).trans (Heap.SameBut.update ..)))⟩))

theorem setNext_end {it : Addr} {o : Obj} {slot i : Nat} {Q : Option Value → Shared → Prop} (hh : A.handled = none) (hi : s.heap.get? it = some o) (hc : o.cls = .type "set_iterator") (hd : o.data = .fields #[rawInt slot, rawInt i, .ref sa, rawInt es.size, rawInt ep])
    (ho : s.heap.get? sa = some so) (hs : SetIs w so es ep t) (hb : w.params.followText "set-order" = true ∨ es.size ≤ 1) (hx : nextOf w es sa ep t slot i = none)
    (hQ : ∀ h', Heap.ExtBut it s.heap h' → Q none { s with heap := h' }) :
    wpAny (model prog w) A (pyNext (.ref it)) Q E s := by
  have hT : s.TypeIs (.ref it) "set_iterator" := ⟨o, hi, hc⟩
  unfold pyNext
  refine wpAny_bind (wpAny_attempt (wpAny_callSpecial?_slot (name := Str.ofString "__next__") hT slot_setit_next
    (wpAny_call_entry slot_setit_next hT entry_setit_next ?_ (args_setit_next_1 _))))
  show wpAny _ _ (fieldsOf (.ref it) >>= _) _ _ s
  refine wpAny_bind (wpAny_fieldsOf hi hd ?_)
  show wpAny _ _ (setEntries sa >>= _) _ _ s
  refine wpAny_bind (wpAny_setEntries_of ho hs.2.1 hs.2.2.1 ?_)
  refine wif_neg (by simp) ?_
  show wpAny _ _ (setNext sa (Int.toNat slot) (Int.toNat i) (Int.toNat ep) >>= _) _ _ s
  refine wpAny_bind (setNext_any ho hs hb ?_)
  simp only [Int.toNat_natCast, hx]
  refine wpAny_bind (wpAny_setField hi hd (by simp) ?_)
  refine wpAny_bind ?_
  simp only [newExc, newTuple]
  refine wpAny_bind (wpAny_newObj_type ?_ (by size_fits))
  refine wpAny_bind (m := firstArgMember _ _) (wpAny_of_eq (a := Value.none) (by first | rfl | (simp only [firstArgMember]; rfl)) ?_)
  refine wpAny_newObj_type ?_ (by size_fits)
  simp only [raiseNew]
  refine wpAny_bind (wpAny_handled ?_)
  first | rw [show A.in1.handled = none from hh] | rw [hh]
  refine wpAny_bind (wpAny_pure (wpAny_throw ?_))
  refine wpAny_bind (wpAny_isInstance (T := "StopIteration") (b := true) ⟨_, Heap.get?_push_size _ rfl, rfl⟩ isSubtype_stop ?_)
  exact wpAny_pure (hQ _ (((Heap.SameBut.update ..).extBut.push _).push _))
end
end Mine
end
section
open PySem PySem.W PyProof.Rows PySem.Calls PyProof.Rows.LCg
set_option Elab.async false
set_option maxRecDepth 100000
set_option maxHeartbeats 1000000
namespace Mine
theorem set_back_MSet3 : True := by w_top off; trivial
section
variable {prog : Program} {w : World} {A : Around} {E : Value → Shared → Prop} {s : Shared} {h₀ : Heap} {L I ax sa : Addr} {m : Str → Option Value} {news : Led} {target : PySem.Expr} {so : Obj} {es : Array (Int × Value)} {ep : Nat} {t : SetTable}

theorem drawNext_item {it T : Addr} {o : Obj} {i k : Nat} {e : Int × Value} {pl : Array Value} {u : Tok} {Q : Option Value → Shared → Prop} (hi : s.heap.get? it = some o) (hc : o.cls = .type "set_iterator") (hd : o.data = .fields #[.ref T, rawInt i, .ref sa, rawInt es.size, rawInt ep])
    (hT : s.heap.IsTuple T pl) (ho : s.heap.get? sa = some so) (hs : SetIs w so es ep t) (hp : pl[i]? = some (.int (k : Nat) u)) (hx : es[k]? = some e)
    (hQ : ∀ h' o', h'.get? it = some o' → o'.cls = .type "set_iterator" → o'.data = .fields #[.ref T, rawInt ((i + 1 : Nat) : Int), .ref sa, rawInt es.size, rawInt ep] → Heap.SameBut it s.heap h' → Q (some e.2) { s with heap := h' }) :
    wpAny (model prog w) A (pyNext (.ref it)) Q E s := by
  have hTy : s.TypeIs (.ref it) "set_iterator" := ⟨o, hi, hc⟩
  obtain ⟨ot, hot, _, nt, hdt⟩ := hT
  unfold pyNext
  refine wpAny_bind (wpAny_attempt (wpAny_callSpecial?_slot (name := Str.ofString "__next__") hTy slot_setit_next
    (wpAny_call_entry slot_setit_next hTy entry_setit_next ?_ (args_setit_next_1 _))))
  show wpAny _ _ (fieldsOf (.ref it) >>= _) _ _ s
  refine wpAny_bind (wpAny_fieldsOf hi hd ?_)
  show wpAny _ _ (setEntries sa >>= _) _ _ s
  refine wpAny_bind (wpAny_setEntries_of ho hs.2.1 hs.2.2.1 ?_)
  refine wif_neg (by simp) ?_
  show wpAny _ _ (seqItems? (.ref T) >>= _) _ _ s
  refine wpAny_bind (wpAny_seqItems hot hdt ?_)
  simp only [Int.toNat_natCast, hp]
  unfold setNextDrawn
  refine wpAny_bind (wpAny_bind (wpAny_setState_of ho hs.2.1 hs.2.2.1 ?_))
  refine wif_neg (by simp) ?_
  rw [hx]
  refine wpAny_pure ?_
  have hr := fields_set (i := 1) (x := rawInt ((i : Int) + 1)) hi hd
  refine wpAny_bind (wpAny_setField hi hd (by simp) (wpAny_pure ⟨e.2, rfl, wpAny_pure (hQ _ _ hr.1 (hr.2.1.trans hc) (by rw [hr.2.2]; rfl) (Heap.SameBut.update ..))⟩))

theorem drawNext_end {it T : Addr} {o : Obj} {i : Nat} {pl : Array Value} {Q : Option Value → Shared → Prop} (hh : A.handled = none) (hi : s.heap.get? it = some o) (hc : o.cls = .type "set_iterator") (hd : o.data = .fields #[.ref T, rawInt i, .ref sa, rawInt es.size, rawInt ep])
    (hT : s.heap.IsTuple T pl) (ho : s.heap.get? sa = some so) (hs : SetIs w so es ep t) (hp : pl[i]? = none)
    (hQ : ∀ h', Heap.ExtBut it s.heap h' → Q none { s with heap := h' }) :
    wpAny (model prog w) A (pyNext (.ref it)) Q E s := by
  have hTy : s.TypeIs (.ref it) "set_iterator" := ⟨o, hi, hc⟩
  obtain ⟨ot, hot, _, nt, hdt⟩ := hT
  unfold pyNext
  refine wpAny_bind (wpAny_attempt (wpAny_callSpecial?_slot (name := Str.ofString "__next__") hTy slot_setit_next
    (wpAny_call_entry slot_setit_next hTy entry_setit_next ?_ (args_setit_next_1 _))))
  show wpAny _ _ (fieldsOf (.ref it) >>= _) _ _ s
  refine wpAny_bind (wpAny_fieldsOf hi hd ?_)
  show wpAny _ _ (setEntries sa >>= _) _ _ s
  refine wpAny_bind (wpAny_setEntries_of ho hs.2.1 hs.2.2.1 ?_)
  refine wif_neg (by simp) ?_
  show wpAny _ _ (seqItems? (.ref T) >>= _) _ _ s
  refine wpAny_bind (wpAny_seqItems hot hdt ?_)
  simp only [Int.toNat_natCast, hp]
  obtain ⟨h1, hc1, hd1⟩ := fields_set (i := 0) (x := rawInt 0) hi hd
  refine wpAny_bind (wpAny_setField hi hd (by simp) ?_)
  refine wpAny_bind (wpAny_setField (s := { s with heap := _ }) h1 hd1 (by simp) ?_)
  refine wpAny_bind ?_
  simp only [newExc, newTuple]
  refine wpAny_bind (wpAny_newObj_type ?_ (by size_fits))
  refine wpAny_bind (m := firstArgMember _ _) (wpAny_of_eq (a := Value.none) (by first | rfl | (simp only [firstArgMember]; rfl)) ?_)
  refine wpAny_newObj_type ?_ (by size_fits)
  simp only [raiseNew]
  refine wpAny_bind (wpAny_handled ?_)
  first | rw [show A.in1.handled = none from hh] | rw [hh]
  refine wpAny_bind (wpAny_pure (wpAny_throw ?_))
  refine wpAny_bind (wpAny_isInstance (T := "StopIteration") (b := true) ⟨_, Heap.get?_push_size _ rfl, rfl⟩ isSubtype_stop ?_)
  exact wpAny_pure (hQ _ (((((Heap.SameBut.update ..).trans (Heap.SameBut.update ..)).extBut).push _).push _))

/-- a set's iterator, by its places -/
noncomputable def SOk (w : World) (sa : Addr) (so : Obj) (es : Array (Int × Value)) (ep : Nat) (t : SetTable) (I : Addr) (i : Nat) (own news : Led) : Prop :=
  (sa, so) ∈ news ∧ ∃ (o : Obj) (slot : Nat), own = [(I, o)] ∧ o.cls = .type "set_iterator" ∧ o.data = .fields #[rawInt slot, rawInt i, .ref sa, rawInt es.size, rawInt ep] ∧ (w.params.followText "set-order" = true ∨ SetTable.below t.place slot = i)
/-- a set's iterator, by a drawn order -/
noncomputable def DOk (sa : Addr) (so : Obj) (es : Array (Int × Value)) (ep : Nat) (I T : Addr) (ot : Obj) (i : Nat) (own news : Led) : Prop :=
  (sa, so) ∈ news ∧ ∃ o : Obj, own = [(I, o), (T, ot)] ∧ o.cls = .type "set_iterator" ∧ o.data = .fields #[.ref T, rawInt i, .ref sa, rawInt es.size, rawInt ep]

theorem pick_all {α : Type} (f : Nat → Nat) (es : Array α) : (pickOrder f es).toList.Perm es.toList := by
  have := pick_perm f es.size 0 es.toList #[] (by simp)
  simpa [pickOrder] using this
theorem pick_size {α : Type} (f : Nat → Nat) (es : Array α) : (pickOrder f es).size = es.size := by
  have := (pick_all f es).length_eq
  simpa using this
theorem nextOk_setT (hh : A.handled = none) (hs : SetIs w so es ep t) (hb : w.params.followText "set-order" = true) :
    NextOk prog w A h₀ L target I [I] es.size (ItemP ((pickOrder (w.params.setOrder sa ep) es).map (·.2))) (SOk w sa so es ep t I) where
  at_ := by
    rintro i own news ⟨_, o, sl, rfl, _⟩ p hp
    rw [List.mem_singleton.mp hp]; exact .head _
  has := by
    rintro i own news ⟨_, o, sl, rfl, _⟩ a ha
    rw [List.mem_singleton.mp ha]; exact ⟨o, .head _⟩
  item := by
    rintro i own news more m s K hi ⟨hm, o, sl, rfl, hc, hd, _⟩ F N off hK
    have hI := N (I, o) (.head _)
    have hS := N (sa, so) (List.mem_append.mpr (.inr (List.mem_append.mpr (.inl hm))))
    have hsz := pick_size (w.params.setOrder sa ep) es
    have hx : nextOf w es sa ep t sl i = some (((pickOrder (w.params.setOrder sa ep) es)[i]'(by omega)).2, sl) := by
      unfold nextOf; rw [if_pos hb, Array.getElem?_eq_getElem (by omega)]; rfl
    refine setNext_item hI.1 hc hd hS.1 hs (.inl hb) hx fun h' o' ho' hc' hd' hs' => ?_
    refine go_plain (s := { s with heap := h' }) ho' hc' hd' (by decide +kernel) ?_
    refine hK _ h' s.toks [(I, o')] [] ⟨by rw [Array.getElem?_map, Array.getElem?_eq_getElem (by omega)]; rfl, rfl⟩ ⟨hm, o', sl, rfl, hc', hd', .inl hb⟩ (F.change hs' hI.2.1 hI.2.2) (fun p hp => ?_) (fun p hp => nomatch hp)
    rcases List.mem_cons.mp hp with rfl | hp
    · exact ⟨ho', hI.2⟩
    · have z := N p (.tail _ hp)
      exact ⟨hs'.extBut _ _ (fun e => off p hp (e ▸ .head _)) z.1, z.2⟩
  done := by
    rintro own news more m s K ⟨hm, o, sl, rfl, hc, hd, _⟩ F N off hK
    have hI := N (I, o) (.head _)
    have hS := N (sa, so) (List.mem_append.mpr (.inr (List.mem_append.mpr (.inl hm))))
    have hsz := pick_size (w.params.setOrder sa ep) es
    have hx : nextOf w es sa ep t sl es.size = none := by
      unfold nextOf; rw [if_pos hb, Array.getElem?_eq_none (by omega)]; rfl
    refine setNext_end hh hI.1 hc hd hS.1 hs (.inl hb) hx fun h' he' => ?_
    refine hK h' s.toks ?_ fun p hp => ?_
    · exact fr_but F (fun b o hb e => he' b o (fun q => hb (by rw [q]; exact .head _)) e) (Ne.symm hI.2.1) hI.2.2
    · have z := N p (.tail _ hp)
      exact ⟨he' _ _ (fun e => off p hp (e ▸ .head _)) z.1, z.2⟩

theorem below_one {j k : Nat} : SetTable.below #[j] k = if j < k then 1 else 0 := by
  show SetTable.below.go #[j] k 1 0 1 = _
  unfold SetTable.below.go
  rw [if_pos (by decide)]
  show (if (#[j] : Array Nat).getD 0 k < k then SetTable.below.go #[j] k 0 1 1 else SetTable.below.go #[j] k 0 0 0) = _
  show (if j < k then SetTable.below.go #[j] k 0 1 1 else SetTable.below.go #[j] k 0 0 0) = _
  unfold SetTable.below.go
  rfl

theorem nextOk_set1 (hh : A.handled = none) (hs : SetIs w so es ep t) (hb : ¬ w.params.followText "set-order" = true) (hsz : es.size ≤ 1) :
    NextOk prog w A h₀ L target I [I] es.size (ItemP (es.map (·.2))) (SOk w sa so es ep t I) where
  at_ := by
    rintro i own news ⟨_, o, sl, rfl, _⟩ p hp
    rw [List.mem_singleton.mp hp]; exact .head _
  has := by
    rintro i own news ⟨_, o, sl, rfl, _⟩ a ha
    rw [List.mem_singleton.mp ha]; exact ⟨o, .head _⟩
  item := by
    rintro i own news more m s K hi ⟨hm, o, sl, rfl, hc, hd, hbe⟩ F N off hK
    have hbe := hbe.resolve_left hb
    have hI := N (I, o) (.head _)
    have hS := N (sa, so) (List.mem_append.mpr (.inr (List.mem_append.mpr (.inl hm))))
    have hps : t.place.size = es.size := by
      have := hs.2.2.1; simp only [SetTable.fits, Bool.and_eq_true, beq_iff_eq] at this; exact this.1
    obtain rfl : i = 0 := by omega
    have e1 : es.size = 1 := by omega
    obtain ⟨j, hj⟩ : ∃ j, t.place = #[j] := by
      have : t.place.size = 1 := by omega
      exact ⟨t.place[0]'(by omega), Array.ext (by simp; omega) fun i h1 h2 => by
        have : i = 0 := by omega
        subst this; rfl⟩
    have hx : nextOf w es sa ep t sl 0 = some ((es[0]'(by omega)).2, j + 1) := by
      unfold nextOf; rw [if_neg hb, hbe, Array.getElem?_eq_getElem (by omega), hj]; rfl
    refine setNext_item hI.1 hc hd hS.1 hs (.inr hsz) hx fun h' o' ho' hc' hd' hs' => ?_
    refine go_plain (s := { s with heap := h' }) ho' hc' hd' (by decide +kernel) ?_
    refine hK _ h' s.toks [(I, o')] [] ⟨by rw [Array.getElem?_map, Array.getElem?_eq_getElem (by omega)]; rfl, rfl⟩ ⟨hm, o', j + 1, rfl, hc', hd', .inr (by rw [hj, below_one]; simp)⟩ (F.change hs' hI.2.1 hI.2.2) (fun p hp => ?_) (fun p hp => nomatch hp)
    rcases List.mem_cons.mp hp with rfl | hp
    · exact ⟨ho', hI.2⟩
    · have z := N p (.tail _ hp)
      exact ⟨hs'.extBut _ _ (fun e => off p hp (e ▸ .head _)) z.1, z.2⟩
  done := by
    rintro own news more m s K ⟨hm, o, sl, rfl, hc, hd, hbe⟩ F N off hK
    have hbe := hbe.resolve_left hb
    have hI := N (I, o) (.head _)
    have hS := N (sa, so) (List.mem_append.mpr (.inr (List.mem_append.mpr (.inl hm))))
    have hx : nextOf w es sa ep t sl es.size = none := by
      unfold nextOf; rw [if_neg hb, hbe, Array.getElem?_eq_none (by omega)]
    refine setNext_end hh hI.1 hc hd hS.1 hs (.inr hsz) hx fun h' he' => ?_
    refine hK h' s.toks ?_ fun p hp => ?_
    · exact fr_but F (fun b o hb e => he' b o (fun q => hb (by rw [q]; exact .head _)) e) (Ne.symm hI.2.1) hI.2.2
    · have z := N p (.tail _ hp)
      exact ⟨he' _ _ (fun e => off p hp (e ▸ .head _)) z.1, z.2⟩

theorem nextOk_setD {T : Addr} {ot : Obj} {nt : Nat} {ks : List Nat} (hh : A.handled = none) (hs : SetIs w so es ep t) (hne : I ≠ T) (hot : ot.cls = .type "tuple") (hdt : ot.data = .seq (ks.map fun k : Nat => rawInt k).toArray nt) (hks : ks.Perm (List.range es.size)) :
    NextOk prog w A h₀ L target I [I, T] es.size (ItemP (ks.map fun k => (es.getD k (0, .none)).2).toArray) (DOk sa so es ep I T ot) where
  at_ := by
    rintro i own news ⟨_, o, rfl, _⟩ p hp
    simp only [List.mem_cons, List.not_mem_nil, or_false] at hp ⊢
    rcases hp with rfl | rfl <;> simp
  has := by
    rintro i own news ⟨_, o, rfl, _⟩ a ha
    simp only [List.mem_cons, List.not_mem_nil, or_false] at ha
    rcases ha with rfl | rfl
    · exact ⟨o, .head _⟩
    · exact ⟨ot, .tail _ (.head _)⟩
  item := by
    rintro i own news more m s K hi ⟨hm, o, rfl, hc, hd⟩ F N off hK
    have hI := N (I, o) (.head _)
    have hTt := N (T, ot) (.tail _ (.head _))
    have hS := N (sa, so) (List.mem_append.mpr (.inr (List.mem_append.mpr (.inl hm))))
    have hlen : ks.length = es.size := by rw [hks.length_eq, List.length_range]
    have hk : ks[i]'(by omega) < es.size := List.mem_range.mp (hks.mem_iff.mp (List.getElem_mem _))
    refine drawNext_item (k := ks[i]'(by omega)) (u := 0) (e := es[ks[i]'(by omega)]) hI.1 hc hd ⟨ot, hTt.1, hot, nt, hdt⟩ hS.1 hs ?_ (by simp) fun h' o' ho' hc' hd' hs' => ?_
    · simp [hlen, hi, rawInt]
    refine go_plain (s := { s with heap := h' }) ho' hc' hd' (by decide +kernel) ?_
    refine hK _ h' s.toks [(I, o'), (T, ot)] [] ⟨?_, rfl⟩ ⟨hm, o', rfl, hc', hd'⟩ (F.change hs' hI.2.1 hI.2.2) (fun p hp => ?_) (fun p hp => nomatch hp)
    · simp [hlen, hi, hk]
    · rcases List.mem_cons.mp hp with rfl | hp
      · exact ⟨ho', hI.2⟩
      · rcases List.mem_cons.mp hp with rfl | hp
        · exact ⟨hs'.extBut _ _ (Ne.symm hne) hTt.1, hTt.2⟩
        · have z := N p (.tail _ (.tail _ hp))
          exact ⟨hs'.extBut _ _ (fun e => off p hp (e ▸ .head _)) z.1, z.2⟩
  done := by
    rintro own news more m s K ⟨hm, o, rfl, hc, hd⟩ F N off hK
    have hI := N (I, o) (.head _)
    have hTt := N (T, ot) (.tail _ (.head _))
    have hS := N (sa, so) (List.mem_append.mpr (.inr (List.mem_append.mpr (.inl hm))))
    have hlen : ks.length = es.size := by rw [hks.length_eq, List.length_range]
    refine drawNext_end hh hI.1 hc hd ⟨ot, hTt.1, hot, nt, hdt⟩ hS.1 hs (by simp [hlen]) fun h' he' => ?_
    refine hK h' s.toks ?_ fun p hp => ?_
    · exact fr_but F (fun b o hb e => he' b o (fun q => hb (by rw [q]; exact .head _)) e) (Ne.symm hI.2.1) hI.2.2
    · have z := N p (.tail _ (.tail _ hp))
      exact ⟨he' _ _ (fun e => off p hp (e ▸ .head _)) z.1, z.2⟩
end
end Mine
end
section
open PySem PySem.W PyProof.Rows PySem.Calls PyProof.Rows.LCg
set_option Elab.async false
set_option maxRecDepth 100000
set_option maxHeartbeats 1000000
namespace Mine
theorem set_back_MSet4 : True := by w_top off; trivial
section
variable {prog : Program} {w : World} {A : Around} {E : Value → Shared → Prop} {s : Shared} {h₀ : Heap} {L I ax sa : Addr} {m : Str → Option Value} {news : Led} {target : PySem.Expr} {so : Obj} {es : Array (Int × Value)} {ep : Nat} {t : SetTable}

theorem setDrawn_any {Q : Bool → Shared → Prop} (ho : s.heap.get? sa = some so) (hs : SetIs w so es ep t)
    (h : Q (!w.params.followText "set-order" && (!t.plain && decide (es.size > 1))) s) : wpAny (model prog w) A (setDrawn sa) Q E s := by
  unfold setDrawn setsByText
  refine wpAny_bind (wpAny_setState_of ho hs.2.1 hs.2.2.1 ?_)
  refine wpAny_bind (wpAny_bind (wpAny_askSetting (wpAny_pure ?_)))
  exact wpAny_pure h

theorem range_map_get (es : Array (Int × Value)) : (List.range es.size).map (fun k => (es.getD k (0, .none)).2) = es.toList.map (·.2) := by
  apply List.ext_getElem?
  intro i
  simp only [List.getElem?_map, Array.getElem?_toList]
  by_cases h : i < es.size
  · simp [h, List.getElem?_range]
  · simp [h, List.getElem?_eq_none]

theorem iter_set {K : Value → Shared → Prop} (F : Fr h₀ L s.heap m) (N : News h₀ L s.heap news) (hm : (sa, so) ∈ news) (hs : SetIs w so es ep t) (hsz : es.size < 100)
    (h : ∀ h' dr I ads own (its : Array Value) Ok, its.toList.Perm (es.toList.map (·.2)) → (∀ (A' : Around) (tg : PySem.Expr), A'.handled = none → NextOk prog w A' h₀ L tg I ads its.size (ItemP its) Ok) →
      Fr h₀ L h' m → News h₀ L h' (own ++ news) → Off ads news → Ok 0 own news → K (.ref I) { s with heap := h', drawn := dr }) : wpAny (model prog w) A (pyIter (.ref sa)) K E s := by
  have hS := N _ hm
  have hTy : s.TypeIs (.ref sa) "set" := ⟨so, hS.1, hs.1.1⟩
  refine wpAny_pyIter_slot hTy PySem.F.slot_set_iter (wpAny_call_entry PySem.F.slot_set_iter hTy entry_set_iter ?_ (PySem.F.args_set_iter_1 _))
  show wpAny _ _ (Builtin.Frozenset.sizeOf sa >>= _) _ _ s
  unfold Builtin.Frozenset.sizeOf
  refine wpAny_bind (wpAny_bind (wpAny_setEntries_of hS.1 hs.2.1 hs.2.2.1 (wpAny_pure ?_)))
  refine wpAny_bind (setDrawn_any hS.1 hs ?_)
  have newOff : ∀ {a : Addr}, s.heap.objs.size ≤ a → ∀ p ∈ news, p.1 ≠ a := fun ha p hp e => absurd (Heap.lt_size (N p hp).1) (by rw [e]; exact Nat.not_lt.mpr ha)
  by_cases hb : w.params.followText "set-order" = true
  · refine wif_neg (by simp [hb]) ?_
    refine wpAny_bind (wpAny_pure ?_)
    refine wpAny_bind (wpAny_setEpoch_of hS.1 hs.2.1 hs.2.2.1 ?_)
    refine wpAny_bind (wpAny_newObj_type (wpAny_pure ⟨_, rfl, "set_iterator", _, ⟨_, Heap.get?_push_size _ rfl, rfl⟩, slot_setit_next.lookup, ?_⟩))
    refine h _ s.drawn s.heap.objs.size [s.heap.objs.size] [(s.heap.objs.size, _)] ((pickOrder (w.params.setOrder sa ep) es).map (·.2)) (SOk w sa so es ep t s.heap.objs.size) ?_ (fun A' tg hh => ?_) (F.push _) (News.push F N _) (fun p hp ha => newOff (Nat.le_refl _) p hp (List.mem_singleton.mp ha)) ⟨hm, _, 0, rfl, rfl, rfl, .inl hb⟩
    · rw [Array.toList_map]; exact (pick_all _ es).map _
    · have := nextOk_setT (prog := prog) (h₀ := h₀) (L := L) (target := tg) (I := s.heap.objs.size) (sa := sa) hh hs hb
      rw [Array.size_map, pick_size]; exact this
  · by_cases h1 : es.size ≤ 1
    · refine wif_neg (by simp; omega) ?_
      refine wpAny_bind (wpAny_pure ?_)
      refine wpAny_bind (wpAny_setEpoch_of hS.1 hs.2.1 hs.2.2.1 ?_)
      refine wpAny_bind (wpAny_newObj_type (wpAny_pure ⟨_, rfl, "set_iterator", _, ⟨_, Heap.get?_push_size _ rfl, rfl⟩, slot_setit_next.lookup, ?_⟩))
      refine h _ s.drawn s.heap.objs.size [s.heap.objs.size] [(s.heap.objs.size, _)] (es.map (·.2)) (SOk w sa so es ep t s.heap.objs.size) ?_ (fun A' tg hh => ?_) (F.push _) (News.push F N _) (fun p hp ha => newOff (Nat.le_refl _) p hp (List.mem_singleton.mp ha)) ⟨hm, _, 0, rfl, rfl, rfl, .inr ?_⟩
      · rw [Array.toList_map]
      · rw [Array.size_map]; exact nextOk_set1 hh hs hb h1
      · have hps : t.place.size = es.size := by
          have := hs.2.2.1; simp only [SetTable.fits, Bool.and_eq_true, beq_iff_eq] at this; exact this.1
        generalize t.place = pl at hps
        obtain ⟨l⟩ := pl
        rcases l with _ | ⟨j, _ | ⟨k, l⟩⟩
        · rfl
        · rw [below_one]; simp
        · simp at hps; omega
    · have hpl : t.plain = false := (hs.2.2.2.resolve_left (by omega)).2
      refine wif_pos (by simp [hb, hpl]; omega) ?_
      refine wpAny_bind ?_
      refine drawOrder_any es.size (List.range es.size) _ _ List.length_range fun ks d hks => ?_
      unfold newTuple
      refine wpAny_bind ?_
      have hkl : ks.length = es.size := by rw [hks.length_eq, List.length_range]
      refine wpAny_newObj_type ?_ ?_
      · refine wpAny_bind (wpAny_setEpoch_of (Heap.get?_push_of_some _ hS.1) hs.2.1 hs.2.2.1 ?_)
        refine wpAny_bind (wpAny_newObj_type (wpAny_pure ⟨_, rfl, "set_iterator", _, ⟨_, Heap.get?_push_size _ rfl, rfl⟩, slot_setit_next.lookup, ?_⟩))
        have F1 := F.push { cls := .type "tuple", data := .seq (ks.map fun (i : Nat) => rawInt i).toArray 0 }
        have N1 := News.push F N { cls := .type "tuple", data := .seq (ks.map fun (i : Nat) => rawInt i).toArray 0 }
        refine h _ d (s.heap.push { cls := .type "tuple", data := .seq (ks.map fun (i : Nat) => rawInt i).toArray 0 }).objs.size [(s.heap.push { cls := .type "tuple", data := .seq (ks.map fun (i : Nat) => rawInt i).toArray 0 }).objs.size, s.heap.objs.size]
          [(_, _), (s.heap.objs.size, { cls := .type "tuple", data := .seq (ks.map fun (i : Nat) => rawInt i).toArray 0 })] (ks.map fun k => (es.getD k (0, .none)).2).toArray
          (DOk sa so es ep _ s.heap.objs.size { cls := .type "tuple", data := .seq (ks.map fun (i : Nat) => rawInt i).toArray 0 }) ?_ (fun A' tg hh => ?_) (F1.push _) (News.push F1 N1 _) (fun p hp ha => ?_) ⟨hm, _, rfl, rfl, rfl⟩
        · rw [← range_map_get]; exact hks.map _
        · have := nextOk_setD (prog := prog) (h₀ := h₀) (L := L) (target := tg) (sa := sa) (I := (s.heap.push { cls := .type "tuple", data := .seq (ks.map fun (i : Nat) => rawInt i).toArray 0 }).objs.size) (T := s.heap.objs.size) (ot := { cls := .type "tuple", data := .seq (ks.map fun (i : Nat) => rawInt i).toArray 0 }) hh hs (by rw [Heap.size_push]; exact Nat.ne_of_gt (Nat.lt_succ_self _)) rfl rfl hks
          have e : (ks.map fun k => (es.getD k (0, .none)).2).toArray.size = es.size := by rw [List.size_toArray, List.length_map, hkl]
          rw [← e] at this; exact this
        · simp only [List.mem_cons, List.not_mem_nil, or_false] at ha
          rcases ha with e | e
          · exact newOff (by rw [Heap.size_push]; omega) p hp e
          · exact newOff (Nat.le_refl _) p hp e
      · show _ ≤ sizeLine
        rw [List.size_toArray, List.length_map, hkl, sizeLine_eq]; omega
end
end Mine
end
section
open PySem PySem.W PyProof.Rows PySem.Calls PyProof.Rows.LCg
set_option Elab.async false
set_option maxRecDepth 100000
set_option maxHeartbeats 1000000
namespace Mine
theorem set_back_MSet5 : True := by w_top off; trivial

theorem standIn_led (t : SetTable) (n : Nat) : (t.standIn n).led = t.led ∧ ((t.standIn n).plain = true → t.plain = true) := ⟨rfl, by intro h; cases h⟩
theorem orStandIn_led (t : SetTable) (n : Nat) : (t.orStandIn n).led = t.led ∧ ((t.orStandIn n).plain = true → t.plain = true) := by
  unfold SetTable.orStandIn; split
  · exact ⟨rfl, id⟩
  · exact standIn_led t n
theorem layNew_led (t : SetTable) (es : Array (Int × Value)) (h : Int) (x : Value) : (layNew t es h x).2.1.led = t.led ∧ ((layNew t es h x).2.1.plain = true → t.plain = true) := by
  unfold layNew
  split
  · exact orStandIn_led _ _
  · exact standIn_led _ _
theorem relayAll_led (t : SetTable) (es : Array (Int × Value)) (n : Nat) : (relayAll t es n).2.1.led = t.led ∧ ((relayAll t es n).2.1.plain = true → t.plain = true) := by
  unfold relayAll
  split
  · rename_i t' order he
    have hl : t'.led = t.led ∧ t'.plain = t.plain := by
      unfold SetTable.relaid SetTable.laid at he
      simp only [Option.bind_eq_bind, Option.bind_eq_some_iff, Option.pure_def, Option.some.injEq, Prod.mk.injEq] at he
      obtain ⟨ow, _, he, _⟩ := he
      subst he
      exact ⟨rfl, rfl⟩
    dsimp only
    split
    · exact ⟨hl.1, fun h => by rw [← hl.2]; exact h⟩
    · exact standIn_led _ _
  · exact standIn_led _ _

/-- a set of strs as it is built up -/
structure BSet (prog : Program) (w : World) (o : Obj) (xs : List Str) (es : Array (Int × Value)) (ep : Nat) (t : SetTable) : Prop where
  ex : o.ExactSet
  data : o.data = .set es ep t
  fits : t.fits es.size = true
  led : t.led = !w.params.followText "set-order"
  plain : es.size = 0 ∨ t.plain = false
  elems : ElemsOf (strKind prog w) es.toList
  mem : ∀ k, k ∈ xs ↔ ∃ e ∈ es.toList, (strKind prog w).is k e.2 = true
  size : es.size = xs.length

section
variable {prog : Program} {w : World} {A : Around} {E : Value → Shared → Prop} {s : Shared} {h₀ : Heap} {L I ax sa : Addr} {m : Str → Option Value} {news : Led} {target : PySem.Expr} {so : Obj} {es : Array (Int × Value)} {ep : Nat} {t : SetTable} {xs : List Str}

theorem store_B {es' : Array (Int × Value)} {t' : SetTable} {xs' : List Str} {h : Heap} (ho : h.get? sa = some so) (hB : BSet prog w so xs es ep t) (fits : t'.fits es'.size = true) (led : t'.led = t.led) (plain : t'.plain = false) (elems : ElemsOf (strKind prog w) es'.toList)
    (mem : ∀ k, k ∈ xs' ↔ ∃ e ∈ es'.toList, (strKind prog w).is k e.2 = true) (size : es'.size = xs'.length) :
    ∃ so', (h.update sa (Obj.putSet es' t')).get? sa = some so' ∧ BSet prog w so' xs' es' (ep + 1) t' := by
  refine ⟨{ so with data := .set es' (ep + 1) t' }, ?_, ⟨hB.ex, rfl, fits, led.trans hB.led, .inr plain, elems, mem, size⟩⟩
  have := Heap.get?_update_self (Obj.putSet es' t') ho (by rw [putSet_of es' t' hB.data]; rfl)
  rw [putSet_of es' t' hB.data] at this; exact this

theorem add_B {x : Str} {u : Tok} {Q : Bool → Shared → Prop} (ho : s.heap.get? sa = some so) (hB : BSet prog w so xs es ep t) (hx : x ∉ xs) (hl : xs.length < 100)
    (h : ∀ h' tk so' es' ep' t', Heap.SameBut sa s.heap h' → h'.get? sa = some so' → BSet prog w so' (xs ++ [x]) es' ep' t' → Q true { s with heap := h', toks := tk }) :
    wpAny (model prog w) A (setAdd sa (.str x u)) Q E s := by
  have hkey : (strKind prog w).is x (.str x u) = true := strKind_is prog w x u
  have hsc : (Value.str x u).scannable = true := rfl
  unfold setAdd
  refine wpAny_holding ?_
  refine wpAny_bind ((strKind prog w).pyHash (k := x) hkey ?_)
  have hb : es.size < scanBound := by rw [hB.size]; unfold scanBound; omega
  unfold setAddHashed setAddHashedIn
  refine wpAny_holding (wpAny_bind (wpAny_setState_of ho hB.data hB.fits ?_))
  dsimp only
  rw [byScan_of hsc hb hB.elems]
  simp only [↓reduceIte]
  unfold setAddByScan
  refine wpAny_bind ?_
  refine wpAny_bind (wpAny_rule ?_)
  refine wpAny_bind (wpAny_setScan_of hkey ho hB.data hB.fits hB.elems ?_)
  have hr : List.findIdx? (fun e : Int × Value => (strKind prog w).is x e.2) es.toList = none := by
    rw [List.findIdx?_eq_none_iff]
    intro e he
    rw [← Bool.not_eq_true]
    exact fun hp => hx ((hB.mem x).mpr ⟨e, he, hp⟩)
  rw [hr]
  dsimp only
  have hperm := layNew_perm t es ((strKind prog w).hash x) (.str x u)
  have hfits := layNew_fits t es ((strKind prog w).hash x) (.str x u)
  have hled := layNew_led t es ((strKind prog w).hash x) (.str x u)
  generalize hL : layNew t es ((strKind prog w).hash x) (.str x u) = L at hperm hfits hled ⊢
  obtain ⟨es1, t1, wasDummy, gave⟩ := L
  dsimp only at hperm hfits hled ⊢
  rw [Array.toList_push] at hperm
  have hel1 : ElemsOf (strKind prog w) es1.toList := (hB.elems.push hkey hsc).perm hperm
  have hmem1 : ∀ k, k ∈ xs ++ [x] ↔ ∃ e ∈ es1.toList, (strKind prog w).is k e.2 = true := by
    intro k
    have := mem_push_iff (S := fun k => decide (k ∈ xs)) hkey (fun k => by rw [decide_eq_true_eq]; exact hB.mem k) hperm k
    rw [← this]; simp
  have hsz1 : es1.size = (xs ++ [x]).length := by
    have := hperm.length_eq
    simp at this ⊢
    rw [this, hB.size]
  have hgw : ∀ (b : Bool) {s₁ : Shared} {Q' : Unit → Shared → Prop}, Q' () s₁ → wpAny (model prog w) A (match b with | true => rule "set.scan.the-table-gave-way" | false => pure ()) Q' E s₁ :=
    fun b s₁ Q' hq => by cases b <;> first | exact wpAny_pure hq | exact wpAny_rule hq
  refine wpAny_bind (hgw _ ?_)
  have fin : ∀ t2 : SetTable, t2.fits es1.size = true → t2.led = t.led → t2.plain = false → wpAny (model prog w) A (do
        storeSet sa es1 t2
        if (!wasDummy && t2.tooFull) = true then do
            (match (relayAll t2 es1 (SetTable.grown es1.size)).2.2 with | true => rule "set.scan.the-table-gave-way" | false => pure ())
            storeSet sa (relayAll t2 es1 (SetTable.grown es1.size)).1 (relayAll t2 es1 (SetTable.grown es1.size)).2.1
            pure (some true)
          else pure (some true)) (fun r s' => wpAny (model prog w) A (match r with | some added => pure added | none => setAddHashedIn sa (.str x u) ((strKind prog w).hash x) 99999) Q E s') E { s with toks := s.toks + 1 } := by
    intro t2 hf2 hl2 hp2
    have hz1 : es1.size ≤ sizeLine := by rw [hsz1, sizeLine_eq]; simp; omega
    refine wpAny_bind (wpAny_storeSet_of (s := { s with toks := s.toks + 1 }) ho hB.data ?_ hz1)
    obtain ⟨so1, ho1, hB1⟩ := store_B (xs' := xs ++ [x]) ho hB hf2 hl2 hp2 hel1 hmem1 hsz1
    refine if hc : (!wasDummy && t2.tooFull) = true then wif_pos hc ?_ else wif_neg hc ?_
    · have hp := relayAll_perm t2 es1 (SetTable.grown es1.size)
      have hfr := relayAll_fits t2 es1 (SetTable.grown es1.size)
      have hlr := relayAll_led t2 es1 (SetTable.grown es1.size)
      generalize hRl : relayAll t2 es1 (SetTable.grown es1.size) = Rl at hp hfr hlr ⊢
      obtain ⟨es2, t3, gave2⟩ := Rl
      dsimp only at hp hfr hlr ⊢
      refine wpAny_bind (hgw _ ?_)
      have hsz : es2.size = es1.size := by rw [← Array.length_toList, hp.length_eq, Array.length_toList]
      refine wpAny_bind (wpAny_storeSet_of (s := { s with toks := s.toks + 1, heap := _ }) ho1 hB1.data ?_ (by rw [hsz]; exact hz1))
      obtain ⟨so2, ho2, hB2⟩ := store_B (xs' := xs ++ [x]) ho1 hB1 hfr hlr.1 (by cases hq : t3.plain with | false => rfl | true => exact absurd (hlr.2 hq) (by rw [hp2]; exact Bool.false_ne_true)) (hel1.perm hp)
        (fun k => (hmem1 k).trans ⟨fun ⟨e, he, q⟩ => ⟨e, hp.mem_iff.mpr he, q⟩, fun ⟨e, he, q⟩ => ⟨e, hp.mem_iff.mp he, q⟩⟩) (hsz.trans hsz1)
      exact wpAny_pure (wpAny_pure (h _ _ so2 _ _ _ ((Heap.SameBut.update ..).trans (Heap.SameBut.update ..)) ho2 hB2))
    · exact wpAny_pure (wpAny_pure (h _ _ so1 _ _ _ (Heap.SameBut.update ..) ho1 hB1))
  refine if hc : t1.plain = true then wif_pos hc ?_ else wif_neg hc ?_
  · rw [hashByValue_scannable 8 hsc]
    refine wpAny_bind (wpAny_pure ?_)
    exact fin _ (SetTable.fits_plain_off hfits) hled.1 rfl
  · refine wpAny_bind (wpAny_pure ?_)
    exact fin _ hfits hled.1 (by simpa using hc)
end
end Mine
end
section
open PySem PySem.W PyProof.Rows PySem.Calls PyProof.Rows.LCg
set_option Elab.async false
set_option maxRecDepth 100000
set_option maxHeartbeats 1000000
namespace Mine
theorem set_back_MSet6 : True := by w_top off; trivial
section
variable {prog : Program} {w : World} {A : Around} {E : Value → Shared → Prop} {s : Shared} {h₀ : Heap} {L I ax sa : Addr} {m : Str → Option Value} {news : Led} {target : PySem.Expr} {so : Obj} {es : Array (Int × Value)} {ep : Nat} {t : SetTable} {xs : List Str}

/-- a list of strs, by place -/
noncomputable def StrList (vs : List Value) (xs : List Str) : Prop := vs.length = xs.length ∧ ∀ i (h : i < xs.length), ∃ u, vs[i]? = some (.str xs[i] u)

theorem updLoop {l : Addr} {vs : List Value} {R : Result → Shared → Prop} (hh : A.handled = none) (hv : StrList vs xs) (hn : xs.Nodup) (hlen : xs.length < 100) (h1 : sa ≠ I) (h2 : l ≠ I) (h3 : l ≠ sa) :
    ∀ (k i : Nat) (s : Shared) (so : Obj) (es : Array (Int × Value)) (ep : Nat) (t : SetTable), xs.length - i = k → i ≤ xs.length → s.heap.IsListIter I l i → s.heap.IsList l vs.toArray → s.heap.get? sa = some so → BSet prog w so (xs.take i) es ep t →
      (∀ h' tk so' es' ep' t', (∀ b o, b ≠ sa → b ≠ I → s.heap.get? b = some o → h'.get? b = some o) → h'.get? sa = some so' → BSet prog w so' xs es' ep' t' → R (.ok (.ret .none)) { s with heap := h', toks := tk }) →
      codeAny (model prog w) A (.builtin "set.update.loop" ⟨[.ref sa, .ref I], []⟩) R s := by
  intro k
  induction k with
  | zero =>
    intro i s so es ep t hk hi hit hl ho hB hR
    have hin : i = xs.length := by omega
    subst hin
    refine codeAny_builtin PyProof.Rows.F.entry_set_update_loop ?_
    rw [Around.under_plainId PyProof.Rows.F.plain_set_update_loop _]
    show wpAny _ A.in1 (pyNext (.ref I) >>= _) _ _ s
    refine wpAny_bind (wpAny_pyNext_list_end (by simp [hh]) hit hl (by simp [hv.1]) fun h' he' => ?_)
    show wpAny _ A.in1 (ret Value.none) _ _ _
    rw [List.take_length] at hB
    exact wpAny_pure (hR h' s.toks so es ep t (fun b o hb1 hb2 e => he' b o hb2 e) (he' _ _ h1 ho) hB)
  | succ k ih =>
    intro i s so es ep t hk hi hit hl ho hB hR
    have hlt : i < xs.length := by omega
    obtain ⟨u, hu⟩ := hv.2 i hlt
    refine codeAny_builtin PyProof.Rows.F.entry_set_update_loop ?_
    rw [Around.under_plainId PyProof.Rows.F.plain_set_update_loop _]
    show wpAny _ A.in1 (pyNext (.ref I) >>= _) _ _ s
    refine wpAny_bind (wpAny_pyNext_list_item hit hl (x := .str xs[i] u) (by simpa using hu) fun h' hit' hs' => ?_)
    show wpAny _ A.in1 (holding [Value.str xs[i] u] (setAdd sa (.str xs[i] u)) >>= _) _ _ _
    refine wpAny_bind (wpAny_holding ?_)
    have hx : xs[i] ∉ xs.take i := by
      intro hm
      obtain ⟨j, hj, e⟩ := List.mem_take_iff_getElem.mp hm
      have := (List.getElem_inj hn (i := j) (j := i) (h₀ := by omega) (h₁ := hlt)).mp e
      omega
    refine add_B (s := { s with heap := h' }) (hs'.extBut _ _ h1 ho) hB hx (by simp; omega) fun h2' tk so' es' ep' t' hsb hso' hB' => ?_
    refine wpAny_pure ⟨plainId_quiet PyProof.Rows.F.plain_set_update_loop _, ?_⟩
    have e : xs.take i ++ [xs[i]] = xs.take (i + 1) := by simp
    rw [e] at hB'
    refine ih (i + 1) _ so' es' ep' t' (by omega) hlt ?_ ?_ hso' hB' fun h3' tk3 so3 es3 ep3 t3 hk3 ho3 hB3 => ?_
    · obtain ⟨o, ho1, r⟩ := hit'; exact ⟨o, by rw [hsb.2 I (Ne.symm h1)]; exact ho1, r⟩
    · obtain ⟨o, ho1, r⟩ := hl; exact ⟨o, by rw [hsb.2 l h3]; exact hs'.extBut _ _ h2 ho1, r⟩
    · exact hR h3' tk3 so3 es3 ep3 t3 (fun b o hb1 hb2 e => hk3 b o hb1 hb2 (by rw [hsb.2 b hb1]; exact hs'.extBut _ _ hb2 e)) ho3 hB3

theorem code_set_new_L (a : Value) {Q₁ : Value → Shared → Prop}
    (h : Q₁ (.ref s.heap.objs.size) { s with heap := s.heap.push { cls := .type "set", dict := none, data := .set #[] 0 (.fresh 0 0 (!w.params.followText "set-order")) } }) :
    codeAny (model prog w) A (.call (.builtin "set.__new__") ⟨[.type "set", a], []⟩) (wants Q₁ E) s := by
  refine codeAny_of_tree ?_
  show wpAny _ A.in1 (do checkBuiltinCall "set.__new__" ⟨[.type "set", a], []⟩; again (.builtin "set.__new__" ⟨[.type "set", a], []⟩)) _ _ s
  refine wpAny_bind (wpAny_of_eq (PySem.F.newCall_set_1 a) (wpAny_pure ⟨plainId_quiet PySem.F.plain_set_new _, codeAny_builtin PySem.F.entry_set_new ?_⟩))
  rw [Around.under_plainId PySem.F.plain_set_new _]
  unfold Builtin.«set.__new__» Builtin.Frozenset.newClass
  have hsub := sub_set_self
  obtain ⟨hp, g, d, tk, os⟩ := s
  dsimp only
  wp_walk
  refine wpAny_askSetting (wpAny_pure ?_)
  dsimp only
  simp only [newObj]
  refine wpAny_bind (wpAny_alloc (wpAny_pure ?_))
  exact wpAny_pure h
end
end Mine
end
section
open PySem PySem.W PyProof.Rows PySem.Calls PyProof.Rows.LCg
set_option Elab.async false
set_option maxRecDepth 100000
set_option maxHeartbeats 3200000
namespace Mine
theorem set_back_MSet7 : True := by w_top off; trivial
theorem words_MSet7 : True := by
  k_with_none
  k_with "m w1" => (first   | with_reducible (first       | refine PySem.wpAny_pure ?_ | refine PySem.wpAny_bind ?_ | refine PySem.wpAny_holding ?_ | refine PySem.wpAny_standAt ?_ | refine PySem.wpAny_point ?_ | refine PySem.wpAny_rule ?_       | refine PySem.wpAny_letGo ?_ | refine PySem.wpAny_fresh' ?_ | refine PySem.wpAny_alloc' ?_ | refine PySem.wpAny_attempt ?_       | refine PySem.wpAny_of_eq (by assumption) ?_ | refine PySem.wpAny_typeOf (by assumption) ?_       | refine PySem.wpAny_specialOf_val (by assumption) (by assumption) ?_ | refine PySem.wpAny_specialOf (by assumption) (by assumption) ?_       | refine PySem.wpAny_isInstance_val (by assumption) (by assumption) ?_ | refine PySem.wpAny_isInstance (by assumption) (by assumption) ?_       | refine PySem.wpAny_call ?_ | refine PySem.wpAny_runValue ?_ | refine PySem.wpAny_run ?_)   | wp_delta | wp_step)
  trivial
/-- a set's object that holds just these strs -/
noncomputable def SetStrs (prog : Program) (w : World) (o : Obj) (xs : List Str) : Prop :=
  ∃ es ep t, SetIs w o es ep t ∧ ElemsOf (strKind prog w) es.toList ∧ (∀ k, k ∈ xs ↔ ∃ e ∈ es.toList, (strKind prog w).is k e.2 = true) ∧ es.size = xs.length ∧ xs.length < 100
section
variable {prog : Program} {w : World} {A : Around} {E : Value → Shared → Prop} {s : Shared} {h₀ : Heap} {L I ax sa : Addr} {m : Str → Option Value} {news : Led} {target : PySem.Expr} {so : Obj} {es : Array (Int × Value)} {ep : Nat} {t : SetTable} {xs : List Str}

theorem BSet.strs (hB : BSet prog w so xs es ep t) (h : xs.length < 100) : SetStrs prog w so xs :=
  ⟨es, ep, t, ⟨hB.ex, hB.data, hB.fits, hB.plain.imp id fun p => ⟨hB.led, p⟩⟩, hB.elems, hB.mem, hB.size, h⟩

theorem call_set_strs {l : Addr} {vs : List Value} {Q : Value → Shared → Prop} (hh : A.handled = none) (hl : s.heap.IsList l vs.toArray) (hv : StrList vs xs) (hn : xs.Nodup) (hlen : xs.length < 100)
    (h : ∀ (h' : Heap) (tk : Nat) so, h'.get? s.heap.objs.size = some so → SetStrs prog w so xs → (∀ b o, b < s.heap.objs.size → s.heap.get? b = some o → h'.get? b = some o) → Q (.ref s.heap.objs.size) { s with heap := h', toks := tk }) :
    wpAny (model prog w) A (call (.type "set") [.ref l]) Q E s := by
  generalize hled : (!w.params.followText "set-order") = led
  obtain ⟨c, tl, hmro⟩ := PySem.F.called_set.mro
  have hmade := PySem.F.called_set.made
  have hsub := PySem.F.called_set.sub
  refine wpAny_call (codeAny_of_tree ?_)
  show wpAny _ _ (callAny (.type "set") _) _ _ _
  refine wpAny_pure ⟨Code.quiet_builtin _ (by decide +kernel), codeAny_builtin PySem.F.entry_type_call ?_⟩
  rw [Around.under_plain (weight_type_call_type "set" [.ref l] []) rfl]
  have h1 := PySem.F.called_set.notType
  have h2 := PySem.F.called_set.canCreate
  have hct := PySem.F.typeCall_set_1 (.ref l)
  repeat (any_goals (first | (with_reducible assumption) | walk_at "m w1" | assumption))
  refine codeAny_mono (code_set_new_L (.ref l) (E := E) (Q₁ := fun obj s₁ => obj = .ref s.heap.objs.size ∧ s₁ = { s with heap := s.heap.push { cls := .type "set", dict := none, data := .set #[] 0 (.fresh 0 0 led) } }) ⟨rfl, by rw [hled]⟩) fun r s₁ hr => ?_
  cases r with
  | error e => exact hr
  | ok fl =>
    cases fl with
    | ret obj =>
      obtain ⟨rfl, rfl⟩ := hr
      have hS : (s.heap.push { cls := .type "set", dict := none, data := .set #[] 0 (.fresh 0 0 led) }).get? s.heap.objs.size = some { cls := .type "set", dict := none, data := .set #[] 0 (.fresh 0 0 led) } := Heap.get?_push_size _ rfl
      have hT : Shared.TypeIs { s with heap := s.heap.push { cls := .type "set", dict := none, data := .set #[] 0 (.fresh 0 0 led) } } (.ref s.heap.objs.size) "set" := ⟨_, hS, rfl⟩
      have hli := PySem.F.called_set.init.lookup
      have hbi := PySem.F.called_set.init.bind (.ref s.heap.objs.size)
      repeat (any_goals (first | (with_reducible assumption) | walk_at "m w1" | assumption))
      refine codeAny_mono (codeAny_call_builtin (R := wants (fun r s₂ => r = .none ∧ ∃ h' tk so, s₂ = { s with heap := h', toks := tk } ∧ h'.get? s.heap.objs.size = some so ∧ SetStrs prog w so xs ∧
          (∀ b o, b < s.heap.objs.size → s.heap.get? b = some o → h'.get? b = some o)) E) PySem.F.called_set.init.plain PySem.F.entry_set_init (check_set_init_1 hT ?_)) fun r₂ s₂ hr₂ => ?_
      · obtain ⟨ol, hol, hcl, nl, hdl⟩ := hl
        obtain ⟨ocls, odict, odata, oslots⟩ := ol
        simp only at hcl hdl
        subst hcl; subst hdl
        have hol' : (s.heap.push { cls := .type "set", dict := none, data := .set #[] 0 (.fresh 0 0 led) }).get? l = some { cls := .type "list", dict := odict, data := .seq vs.toArray nl, slots := oslots } := Heap.get?_push_of_some _ hol
        have hsls := PySem.F.sub_list_set
        have hslf := PySem.F.sub_list_frozenset
        have hne : (Value.type "list" == Value.type "dict") = false := by decide
        have hl1 : (s.heap.push { cls := .type "set", dict := none, data := .set #[] 0 (.fresh 0 0 led) }).IsList l vs.toArray := ⟨_, hol', rfl, nl, rfl⟩
        unfold Builtin.«set.__init__» noKeywords Builtin.Frozenset.updateFrom
        generalize hPI : pyIter = PI
        (repeat walk_at "m w1")
        subst hPI
        refine wpAny_pyIter_list hl1 ?_
        refine wpAny_bind (wpAny_runValue ?_)
        have hlS : l < s.heap.objs.size := Heap.lt_size hol
        have hh3 : A.in1.in1.handled = none := by simp [hh]
        have hz : (s.heap.push { cls := .type "set", dict := none, data := .set #[] 0 (.fresh 0 0 led) }).objs.size = s.heap.objs.size + 1 := Heap.size_push ..
        refine updLoop (sa := s.heap.objs.size) (I := (s.heap.push { cls := .type "set", dict := none, data := .set #[] 0 (.fresh 0 0 led) }).objs.size) (xs := xs) (vs := vs) (l := l) hh3 hv hn hlen (by rw [hz]; exact Nat.ne_of_lt (Nat.lt_succ_self _)) (by rw [hz]; exact Nat.ne_of_lt (Nat.lt_succ_of_lt hlS)) (Nat.ne_of_lt hlS) (xs.length - 0) 0 _ { cls := .type "set", dict := none, data := .set #[] 0 (.fresh 0 0 led) } #[] 0 (.fresh 0 0 led) rfl (Nat.zero_le _) ?g1 ?g2 ?g3 ⟨⟨rfl, rfl, rfl⟩, rfl, rfl, hled.symm, .inl rfl, (fun e he => by simp at he), (fun k => by simp), rfl⟩ ?hR
        case g1 => exact ⟨_, Heap.get?_push_size _ rfl, rfl, rfl⟩
        case g2 => exact hl1.push _
        case g3 => exact Heap.get?_push_of_some _ hS
        case hR =>
          intro h' tk' so' es' ep' t' hk hso' hB'
          refine wpAny_pure ?_
          show wpAny _ _ (ret Value.none) _ _ _
          refine wpAny_pure ⟨rfl, h', tk', so', rfl, hso', hB'.strs hlen, fun b o hb e => ?_⟩
          exact hk b o (Nat.ne_of_lt hb) (by rw [hz]; exact Nat.ne_of_lt (Nat.lt_succ_of_lt hb)) (Heap.get?_push_of_some _ (Heap.get?_push_of_some _ e))
      · cases r₂ with
        | error e => exact hr₂
        | ok fl₂ =>
          cases fl₂ with
          | ret r =>
            obtain ⟨rfl, h', tk, so', rfl, hso', hS', hk'⟩ := hr₂
            repeat (any_goals (first | (with_reducible assumption) | walk_at "m w1" | assumption))
            exact h _ _ _ hso' hS' hk'
          | _ => exact hr₂.elim
    | _ => exact hr.elim

theorem set_new_strs {l : Addr} {vs : List Value} {Q : Value → Shared → Prop} (F : Fr h₀ L s.heap m) (N : News h₀ L s.heap news) (hh : A.handled = none) (hl : s.heap.IsList l vs.toArray) (hv : StrList vs xs) (hn : xs.Nodup) (hlen : xs.length < 100)
    (h : ∀ h' (tk : Nat) D o, Fr h₀ L h' m → News h₀ L h' ((D, o) :: news) → SetStrs prog w o xs → (∀ p ∈ news, p.1 < D) → Q (.ref D) { s with heap := h', toks := tk }) :
    wpAny (model prog w) A (call (.type "set") [.ref l]) Q E s := by
  refine call_set_strs hh hl hv hn hlen fun h' tk so hso hS hk => ?_
  obtain ⟨oL, _, _, hL, _⟩ := F.ns
  have hLlt : L < s.heap.objs.size := Heap.lt_size hL
  refine h h' tk _ so ⟨F.ns.at' fun o' e => hk L o' hLlt e, fun b o' e => hk b o' (Heap.lt_size (F.keep b o' e)) (F.keep b o' e), F.above⟩ (fun p hp => ?_) hS fun p hp => Heap.lt_size (N p hp).1
  rcases List.mem_cons.mp hp with rfl | hp
  · refine ⟨hso, Nat.ne_of_gt hLlt, ?_⟩
    cases hq : h₀.get? s.heap.objs.size with
    | none => rfl
    | some o' => exact absurd (Heap.lt_size (F.keep _ _ hq)) (Nat.lt_irrefl _)
  · exact ⟨hk _ _ (Heap.lt_size (N p hp).1) (N p hp).1, (N p hp).2.1, (N p hp).2.2⟩

theorem set_new_0 {Q : Value → Shared → Prop} (F : Fr h₀ L s.heap m) (N : News h₀ L s.heap news)
    (h : ∀ h' D o, Fr h₀ L h' m → News h₀ L h' ((D, o) :: news) → SetStrs prog w o [] → (∀ p ∈ news, p.1 < D) → Q (.ref D) { s with heap := h' }) :
    wpAny (model prog w) A (call (.type "set") []) Q E s :=
  newSet_N F N fun h' led F' N' => h h' _ _ F' N' ⟨#[], 0, _, ⟨⟨rfl, rfl, rfl⟩, rfl, rfl, .inl rfl⟩, (fun e he => by simp at he), (fun k => by simp), rfl, by decide⟩ fun p hp => Heap.lt_size (N p hp).1

theorem SetStrs.obj (hS : SetStrs prog w so xs) : so.SetObjOf (strKind prog w) (fun k => decide (k ∈ xs)) xs.length := by
  obtain ⟨es, ep, t, hs, hel, hm, hz, hl⟩ := hS
  exact ⟨hs.1, es, ep, t, hs.2.1, hel, fun k => by rw [decide_eq_true_eq]; exact hm k, hz, hs.2.2.1⟩

theorem in_set {x : Str} {u : Tok} {Q : Value → Shared → Prop} (N : News h₀ L s.heap news) (hm : (sa, so) ∈ news) (hS : SetStrs prog w so xs) (h : Q (.bool (decide (x ∈ xs))) { s with toks := s.toks + 1 }) :
    wpAny (model prog w) A (compareOp .In (.str x u) (.ref sa)) Q E s := by
  have hl : xs.length < 100 := by obtain ⟨_, _, _, _, _, _, _, hl⟩ := hS; exact hl
  exact in_sl1 (own := []) (rest := []) (news_sub N fun p hp => by rw [List.nil_append, List.mem_singleton] at hp; rw [hp]; exact hm) hS.obj (by unfold scanBound; omega) (strKind_is _ _ _ _) rfl h

theorem iter_strs {K : Value → Shared → Prop} (F : Fr h₀ L s.heap m) (N : News h₀ L s.heap news) (hm : (sa, so) ∈ news) (hS : SetStrs prog w so xs)
    (h : ∀ h' dr I ads own (its : Array Value) (ys : List Str) Ok, its.size = xs.length → (∀ x, x ∈ ys ↔ x ∈ xs) → StrList its.toList ys → (∀ (A' : Around) (tg : PySem.Expr), A'.handled = none → NextOk prog w A' h₀ L tg I ads its.size (ItemP its) Ok) →
      Fr h₀ L h' m → News h₀ L h' (own ++ news) → Off ads news → Ok 0 own news → K (.ref I) { s with heap := h', drawn := dr }) : wpAny (model prog w) A (pyIter (.ref sa)) K E s := by
  obtain ⟨es, ep, t, hs, hel, hmem, hz, hl⟩ := hS
  refine iter_set F N hm hs (by omega) fun h' dr I ads own its Ok hp hX F' N' off ok => ?_
  have hv : ∀ v ∈ its.toList, ∃ x u, v = .str x u := by
    intro v hv
    obtain ⟨e, he, rfl⟩ := List.mem_map.mp (hp.mem_iff.mp hv)
    obtain ⟨⟨k, hk, _⟩, _⟩ := hel e he
    obtain ⟨u, hu⟩ := Value.isStrOf_shape hk
    exact ⟨k, u, hu⟩
  have hz' : its.size = xs.length := by
    have := hp.length_eq
    rw [List.length_map, Array.length_toList, Array.length_toList] at this
    omega
  refine h h' dr I ads own its (its.toList.map fun v => match v with | .str x _ => x | _ => Str.ofString "") Ok hz' (fun x => ?_) ⟨by simp, fun i hi => ?_⟩ hX F' N' off ok
  · rw [List.mem_map]
    constructor
    · rintro ⟨v, hv1, rfl⟩
      obtain ⟨x, u, rfl⟩ := hv v hv1
      obtain ⟨e, he, e2⟩ := List.mem_map.mp (hp.mem_iff.mp hv1)
      exact (hmem _).mpr ⟨e, he, by rw [e2]; exact strKind_is _ _ _ _⟩
    · intro hx
      obtain ⟨e, he, hk⟩ := (hmem x).mp hx
      obtain ⟨u, hu⟩ := Value.isStrOf_shape hk
      exact ⟨e.2, hp.mem_iff.mpr (List.mem_map.mpr ⟨e, he, rfl⟩), by rw [hu]⟩
  · have hi' : i < its.toList.length := by simpa using hi
    obtain ⟨x, u, e⟩ := hv _ (List.getElem_mem hi')
    refine ⟨u, ?_⟩
    rw [List.getElem?_eq_getElem hi', List.getElem_map, e]
end
end Mine
end
section
open PySem PySem.W PyProof.Rows PySem.Calls PyProof.Rows.LCg
set_option Elab.async false
set_option maxRecDepth 100000
set_option maxHeartbeats 1000000
namespace Mine
theorem set_back_MBase2 : True := by w_top off; trivial
noncomputable def AllNe (d : Nat) : List (Addr × Obj) → Prop
  | [] => True
  | p :: r => @Ne Nat p.1 d ∧ AllNe d r
theorem allNe_of {d : Addr} : ∀ {l : List (Addr × Obj)}, (∀ p ∈ l, p.1 ≠ d) → AllNe d l
  | [], _ => trivial
  | p :: r, h => ⟨h p (.head _), allNe_of fun q hq => h q (.tail _ hq)⟩
theorem StrList.nil : StrList [] [] := ⟨rfl, fun i h => by simp at h⟩
theorem StrList.snoc {ys : List Value} {xs : List Str} (h : StrList ys xs) (x : Str) (u : Tok) : StrList (ys ++ [.str x u]) (xs ++ [x]) := by
  refine ⟨by simp [h.1], fun i hi => ?_⟩
  have hl := h.1
  by_cases e : i < xs.length
  · obtain ⟨v, hv⟩ := h.2 i e
    exact ⟨v, by rw [List.getElem?_append_left (by omega), hv, List.getElem_append_left e]⟩
  · have : i = xs.length := by simp at hi; omega
    subst this
    exact ⟨u, by rw [List.getElem?_append_right (by omega), hl]; simp⟩
theorem StrList.step {ys : List Value} {xs : List Str} {i : Nat} (h : StrList ys (xs.take i)) (hi : i < xs.length) (u : Tok) : StrList (ys ++ [.str xs[i] u]) (xs.take (i + 1)) := by
  have e : xs.take i ++ [xs[i]] = xs.take (i + 1) := by simp
  rw [← e]; exact h.snoc _ _
section
variable {prog : Program} {w : World} {A : Around} {E : Value → Shared → Prop} {s : Shared} {h₀ : Heap} {L da : Addr} {m : Str → Option Value} {news : Led} {od : Obj} {kvs : List (Str × Value)}
theorem IsDictOf.at {h : Heap} (ho : h.get? da = some od) (hd : od.IsDictOf (strKind prog w) kvs) : h.DictOf (strKind prog w) da kvs := 
  Heap.dictOf_iff.mpr ⟨od, ho, hd⟩
theorem truthy_D {Q : Bool → Shared → Prop} (N : News h₀ L s.heap news) (hod : od.IsDictOf (strKind prog w) kvs) (hm : (da, od) ∈ news) (hs : (da == sysModules) = false) (hfit : kvs.length < 1000)
    (h : Q (!kvs.isEmpty) { s with toks := s.toks + 1 + 1 }) : wpAny (model prog w) A (truthy (.ref da)) Q E s :=
  wpAny_truthy_dict hs (IsDictOf.at (N _ hm).1 hod) (by omega) h
theorem getItem_D {x : Str} {t : Tok} {D : List (PyData × PyData)} {Q : Value → Shared → Prop} (N : News h₀ L s.heap news) (hod : od.IsDictOf (strKind prog w) kvs) (hf : PyProof.V.FlatPairs PyData.str kvs D) (hm : (da, od) ∈ news) (hs : (da == sysModules) = false)
    (hl : (Spec.lookup (PyData.str x) D).isSome = true) (h : ∀ v, PyProof.V.Flat v ((Spec.lookup (PyData.str x) D).getD .none) → Q v { s with toks := s.toks + 1 }) : wpAny (model prog w) A (getItem (.ref da) (.str x t)) Q E s := by
  cases hq : Spec.lookup (PyData.str x) D with
  | none => rw [hq] at hl; cases hl
  | some dv => rw [hq] at h; exact getItem_tab PyProof.V.same_str (strKind_is prog w x t) ⟨hs, kvs, IsDictOf.at (N _ hm).1 hod, hf⟩ hq h
theorem truthy_L {a : Addr} {vs : List Value} {q : Nat} {Q : Bool → Shared → Prop} (N : News h₀ L s.heap news) (hm : (a, listOf vs.toArray q) ∈ news) (hf : vs.length < 1000)
    (h : Q (!vs.isEmpty) { s with toks := s.toks + 1 + 1 }) : wpAny (model prog w) A (truthy (.ref a)) Q E s := kgr_truthy N hm rfl rfl (by omega) h
theorem set_new_strsN {l : Addr} {vs : List Value} {xs : List Str} {q : Nat} {Q : Value → Shared → Prop} (F : Fr h₀ L s.heap m) (N : News h₀ L s.heap news) (hm : (l, listOf vs.toArray q) ∈ news) (hv : StrList vs xs) (hn : xs.Nodup) (hh : A.handled = none) (hlen : xs.length < 100)
    (h : ∀ h' (tk : Nat) D o, Fr h₀ L h' m → News h₀ L h' ((D, o) :: news) → SetStrs prog w o xs → (∀ p ∈ news, p.1 < D) → Q (.ref D) { s with heap := h', toks := tk }) :
    wpAny (model prog w) A (call (.type "set") [.ref l]) Q E s := set_new_strs F N hh ⟨_, (N _ hm).1, rfl, _, rfl⟩ hv hn hlen h
theorem iter_listN {ax : Addr} {its : Array Value} {q : Nat} {K : Value → Shared → Prop} (F : Fr h₀ L s.heap m) (N : News h₀ L s.heap news) (hm : (ax, listOf its q) ∈ news)
    (h : ∀ h' I own, Fr h₀ L h' m → News h₀ L h' (own ++ news) → Off [I] news → LOk h₀ I ax its 0 own news → K (.ref I) { s with heap := h' }) : wpAny (model prog w) A (pyIter (.ref ax)) K E s :=
  iter_list F N (.inr ⟨_, hm, rfl, _, rfl⟩) h
theorem iter_tupleN {ax : Addr} {its : Array Value} {q : Nat} {K : Value → Shared → Prop} (F : Fr h₀ L s.heap m) (N : News h₀ L s.heap news) (hm : (ax, ({ cls := .type "tuple", data := .seq its q } : Obj)) ∈ news)
    (h : ∀ h' I own, Fr h₀ L h' m → News h₀ L h' (own ++ news) → Off [I] news → TOk h₀ I ax its 0 own news → K (.ref I) { s with heap := h' }) : wpAny (model prog w) A (pyIter (.ref ax)) K E s :=
  iter_tuple F N (.inr ⟨_, hm, rfl, _, rfl⟩) h
end
end Mine
end
section
open PySem PySem.W PyProof.Rows PySem.Calls PyProof.Rows.LCg
set_option Elab.async false
set_option maxRecDepth 100000
set_option maxHeartbeats 1000000
namespace Mine
theorem set_back_MFrame : True := by w_top off; trivial
/-- what lies off l is kept -/
noncomputable def Kept (h h' : Heap) (l : List Addr) : Prop := ∀ b o, h.get? b = some o → b ∉ l → h'.get? b = some o
theorem Kept.all {h h' : Heap} (k : Kept h h' []) : ∀ b o, h.get? b = some o → h'.get? b = some o := fun b o e => k b o e (by simp)
theorem Kept.news {h₀ h h' : Heap} {L : Addr} {l rest : Led} (k : Kept h h' (l.map (·.1))) (N : News h₀ L h rest) (ha : ∀ p ∈ rest, ∀ q ∈ l, p.1 ≠ q.1) : News h₀ L h' rest := fun p hp =>
  ⟨k _ _ (N p hp).1 fun hm => by obtain ⟨q, hq, e⟩ := List.mem_map.mp hm; exact ha p hp q hq e.symm, (N p hp).2⟩
theorem Kept.app {h₀ h h' : Heap} {L : Addr} {l l' rest : Led} (k : Kept h h' (l.map (·.1))) (N : News h₀ L h rest) (ha : ∀ p ∈ rest, ∀ q ∈ l, p.1 ≠ q.1) (N' : News h₀ L h' l') : News h₀ L h' (l' ++ rest) := fun p hp =>
  (List.mem_append.mp hp).elim (fun x => N' p x) fun x => k.news N ha p x
/-- what lies off l lies off the ledger -/
noncomputable def Apart (h : Heap) (l : List Addr) (news : Led) : Prop := ∀ b o, h.get? b = some o → b ∉ l → ∀ q ∈ news, b ≠ q.1
theorem Apart.rest {h₀ h : Heap} {L : Addr} {l news rest : Led} (k : Apart h (l.map (·.1)) news) (N : News h₀ L h rest) (ha : ∀ p ∈ rest, ∀ q ∈ l, p.1 ≠ q.1) : ∀ p ∈ rest, ∀ q ∈ news, p.1 ≠ q.1 := fun p hp =>
  k _ _ (N p hp).1 fun hm => by obtain ⟨q, hq, e⟩ := List.mem_map.mp hm; exact ha p hp q hq e.symm
theorem leaveKept {h h₀ g : Heap} {L L' : Addr} {l : List Addr} {m m' : Str → Option Value} {news' : List (Addr × Obj)} {R : Result → Shared → Prop} {v : Value} {s' : Shared} (hK : Kept h g l) (F' : Fr g L' s'.heap m') (N' : News g L' s'.heap news')
    (k : Fr h₀ L s'.heap m → News h₀ L s'.heap news' → Kept h s'.heap l → Apart h l news' → R (.ok (.ret v)) s') : LeaveK h₀ L m g R v s' :=
  leaveK_ F' N' fun a b => k a b (fun b o e hb => F'.keep b o (hK b o e hb)) fun b o e hb q hq eq => by
    have h1 := hK b o e hb
    rw [eq, (N' q hq).2.2] at h1
    cases h1
section
variable {K : Frag} {prog : Program} {w : World} {A A₀ : Around} {s : Shared} {h₀ base : Heap} {L : Addr} {m mg mb : Str → Option Value} {mean : ExcName → Option Value} {p : Program} {loose : List Str} {news : List (Addr × Obj)}
theorem code_defK {env : Env} {outer : List Env} {R : Result → Shared → Prop} {name qual : Str} {params : Arguments} {body : List Stmt} {scope : Scope} {dV kV doc pm cdv ct oc : Value} {an od : Option Addr} {osl : Array (Option Value)} {f : Addr} {args : Args} {binds : List (Str × Value)}
    (B : Below A₀ base outer h₀) (F : Fr h₀ L s.heap m) (X₀ : K.In h₀) (N : News h₀ L s.heap news) (T : Top p loose mean mg mb h₀) (hA : A.frames = some (env :: outer)) (hf : env.frame = some L) (hke : env.scope.kind = .function)
    (ho : K.lookup f = some ⟨oc, od, .func (fnOf name qual params body scope dV kV doc pm an cdv ct), osl⟩) (hcd : codeIn K cdv qual = true) (hroom : A.depth < recursionLimit)
    (hbind : BindsTo s (fnOf name qual params body scope dV kV doc pm an cdv ct) args binds) (hloc : ∀ y ∈ binds, scope.names.lookup y.1 = some .local)
    (h : ∀ g L' h₁, Fr h₀ L g m → Fr g L' h₁ (fun y => binds.reverse.lookup y) → News g L' h₁ news → Below A base (env :: outer) g → K.In g → Top p loose mean mg mb g → Kept s.heap g (news.map (·.1)) → (∀ p ∈ news, p.1 < L') →
      wpAny (model prog w) (A.deeper (envOf qual scope L' f cdv)) (execs body (envOf qual scope L' f cdv))
        (fun fl s' => LeaveK h₀ L m g R (match fl with | .ret v => v | _ => .none) s')
        (fun e s' => wpAny (model prog w) (A.deeper (envOf qual scope L' f cdv)) (leaving (envOf qual scope L' f cdv) e) (fun _ s'' => R (.error e) s'') (fun e' s'' => R (.error e') s'') s')
        { s with heap := h₁, toks := s.toks + binds.length })
    (hco : scope.isCoroutine = false) (hgen : scope.isGenerator = false) (hk : scope.kind = .function)
    (hcell : ∀ x ∈ scope.names, x.2 ≠ .cell) : codeAny (model prog w) A (.call (.ref f) args) R s := by
  obtain ⟨FG, BG, st, lv⟩ := groundX (R := R) B F N hA hf hke
  refine codeAny_call_def (fd := fnX name qual params body scope [] dV kV doc pm an cdv ct) (body := body) (binds := binds) hroom ((X₀.keeps F.keep) _ _ ho) rfl (T.nolimit.keeps F.keep) (codeRec_of (X₀.keeps F.keep) hcd) rfl hbind hcell hloc (fun h₁ hns hk₁ => ?_) hco hgen hk
  exact wpAny_mono (h _ s.heap.objs.size h₁ FG ⟨hns, fun b o e => hk₁ b o (of_hideAll _ e), Nat.le_of_eq (hideAll_size _ _)⟩
    (fun p hp => ⟨hk₁ _ _ (N p hp).1, Nat.ne_of_lt (Heap.lt_size (N p hp).1), hideAll_none _ (List.mem_map_of_mem hp)⟩) BG (X₀.keeps st) (T.keeps st) (fun b o e hb => hideAll_get _ e hb) (fun p hp => Heap.lt_size (N p hp).1)) (fun fl s' hl => lv _ _ hl) fun _ _ y => y

theorem code_defCK {env : Env} {outer : List Env} {R : Result → Shared → Prop} {name qual : Str} {params : Arguments} {body : List Stmt} {scope : Scope} {dV kV doc pm cdv ct oc : Value} {an od : Option Addr} {osl : Array (Option Value)} {f : Addr} {args : Args} {binds : List (Str × Value)}
    (B : Below A₀ base outer h₀) (F : Fr h₀ L s.heap m) (X₀ : K.In h₀) (N : News h₀ L s.heap news) (T : Top p loose mean mg mb h₀) (hA : A.frames = some (env :: outer)) (hf : env.frame = some L) (hke : env.scope.kind = .function)
    (ho : K.lookup f = some ⟨oc, od, .func (fnOf name qual params body scope dV kV doc pm an cdv ct), osl⟩) (hcd : codeIn K cdv qual = true) (hroom : A.depth < recursionLimit)
    (hbind : BindsTo s (fnOf name qual params body scope dV kV doc pm an cdv ct) args binds) (hkind : (binds.all fun y => scope.names.lookup y.1 == some .local || scope.names.lookup y.1 == some .cell) = true)
    (hnd : ((cellsFrom 0 scope.names []).map (·.1)).Nodup)
    (h : ∀ g L' h₁ tk cells, Fr h₀ L g m → Fr g L' h₁ (bindL (envOfC qual scope L' f cdv).kindOf binds fun _ => none) → News g L' h₁ (cells ++ news) →
      CellsAre (bindC (envOfC qual scope L' f cdv).kindOf binds fun _ => none) (cellsFrom (L' + 1) scope.names []) cells → Below A base (env :: outer) g → K.In g → Top p loose mean mg mb g → (∀ p ∈ news, p.1 < L') → Kept s.heap g (news.map (·.1)) →
      wpAny (model prog w) (A.deeper (envOfC qual scope L' f cdv)) (execs body (envOfC qual scope L' f cdv))
        (fun fl s' => LeaveK h₀ L m g R (match fl with | .ret v => v | _ => .none) s')
        (fun e s' => wpAny (model prog w) (A.deeper (envOfC qual scope L' f cdv)) (leaving (envOfC qual scope L' f cdv) e) (fun _ s'' => R (.error e) s'') (fun e' s'' => R (.error e') s'') s')
        { s with heap := h₁, toks := tk })
    (hco : scope.isCoroutine = false) (hgen : scope.isGenerator = false) (hk : scope.kind = .function) : codeAny (model prog w) A (.call (.ref f) args) R s := by
  obtain ⟨FG, BG, st, lv⟩ := groundX (R := R) B F N hA hf hke
  refine codeAny_call_function hroom ((X₀.keeps F.keep) _ _ ho) rfl hco hgen rfl (codeRec_of (X₀.keeps F.keep) hcd) (hbind _ _ _ _ ?_)
  refine wpAny_newFunctionEnv_cells hk (kindsX hkind _) fun env' he s' x => ?_
  subst he
  refine ⟨(T.nolimit.keeps F.keep).keeps x.toInCall.keep, codeAny_func ?_⟩
  obtain ⟨h₁, tk, rfl, _⟩ := x.done
  have hk₁ := x.toInCall.keep
  obtain ⟨cells, NC, Y⟩ := Cl.news (h₀ := s.heap) (Nat.le_refl _) fun n c hm => ⟨x.cell n c (lookup_of_mem_nodup (cellsFrom_names scope.names 0 (s.heap.objs.size + 1) [] [] rfl ▸ hnd) hm), x.above n c hm⟩
  refine wpAny_mono (h _ s.heap.objs.size h₁ tk cells FG ⟨x.toInCall.ns, fun b o e => hk₁ b o (of_hideAll _ e), Nat.le_of_eq (hideAll_size _ _)⟩ (fun p hp => ?_) Y BG (X₀.keeps st) (T.keeps st) (fun p hp => Heap.lt_size (N p hp).1) (fun b o e hb => hideAll_get _ e hb)) (fun fl s' hl => lv _ _ hl) fun _ _ y => y
  rcases List.mem_append.mp hp with hp | hp
  · refine ⟨(NC p hp).1, (NC p hp).2.1, ?_⟩
    cases q : (hideAll s.heap (news.map (·.1))).get? p.1 with
    | none => rfl
    | some o => have := of_hideAll _ q; rw [(NC p hp).2.2] at this; cases this
  · exact ⟨hk₁ _ _ (N p hp).1, Nat.ne_of_lt (Heap.lt_size (N p hp).1), hideAll_none _ (List.mem_map_of_mem hp)⟩
end
end Mine
end
section
open PySem PySem.W PyProof.Rows PySem.Calls
open PyProof.Rows.LCg (lst NsObj SrcAt)
open PySem.SeqAt
set_option Elab.async false
set_option maxRecDepth 100000
set_option maxHeartbeats 8000000
namespace Mine
theorem set_back_MPath : True := by w_top off; trivial
theorem words_MPath : True := by
  k_with_none
  k_with "m enter" => ((   (case kA => assumption); (case kF => assumption); (case kK => assumption); (case k1 => assumption); (case k2 => assumption); (case k3 => assumption); (case k4 => assumption); (case k5 => assumption);   (case k6 => k_is); (case k7 => k_is); (case k8 => k_room); (case k9 => first | exact BindsTo.of_eq rfl | exact binds_K (by k_in) rfl (by k_is) rfl rfl rfl); (case c5 => decide); (case kB => exact locs rfl); (case c2 => exact rfl); (case c3 => exact rfl); (case c4 => exact rfl)))
  k_with "m get" => ((repeat (first | assumption | exact get_eq | refine get_ne (by decide) ?_ | rfl)))
  k_with "eval Name" => (((with_reducible show wpAny _ _ (eval (Expr.Name _ _) (envOf _ _ _ _ _)) _ _ _); k_dflt (refine' ld ?z9k1 ?z9k2 ?_; (case z9k1 => k_asm); (case z9k2 => walk_at "m get"); k_whole)))
  k_with "subscriptTail" => (((with_reducible show wpAny _ _ (subscriptTail _ _ (Value.ref _) (Value.int _ _)) _ _ _); (refine' item_h ?z9k1 ?z9k2 ?z9k3 ?z9k4 ?_; (case z9k1 => assumption); (case z9k2 => omega); (case z9k3 => omega); (case z9k4 => assumption); k_whole)))
  k_with "setItem ref int" => ((((with_reducible show wpAny _ _ (setItem (Value.ref _) (Value.int _ _) _) _ _ _); (refine' setItem_h ?z9k1 ?z9k2 ?z9k3 ?z9k4 ?z9k5 ?z9k6 ?_; (case z9k1 => assumption); (case z9k2 => assumption); (case z9k3 => assumption); (case z9k4 => omega); (case z9k5 => assumption); (case z9k6 => omega); k_whole); intro h' F' N'); revert h' F' N'; intro _ _ _))
  k_with "call builtin:len" => (((with_reducible show wpAny _ _ (call (Value.builtin _) [Value.ref _]) _ _ _); (refine' len_h ?z9k1 ?z9k2 ?_; (case z9k1 => assumption); (case z9k2 => first | assumption | (simp only [List.length_append, List.length_cons, List.length_nil]; omega)); k_whole)))
  k_with "call builtin:list.append" => ((((with_reducible show wpAny _ _ (call (Value.builtin _) [Value.ref _, _]) _ _ _); (refine' append_h ?z9k1 ?z9k2 ?z9k3 ?z9k4 ?_; (case z9k1 => assumption); (case z9k2 => assumption); (case z9k3 => assumption); (case z9k4 => omega); k_whole); intro h' F' N'); revert h' F' N'; intro _ _ _))
  k_with "call builtin:list.pop" => ((((with_reducible show wpAny _ _ (call (Value.builtin _) [Value.ref _]) _ _ _); (refine' pop_h ?z9k1 ?z9k2 ?z9k3 ?z9k4 ?_; (case z9k1 => assumption); (case z9k2 => assumption); (case z9k3 => assumption); (case z9k4 => omega); k_whole); intro h' F' N'); revert h' F' N'; intro _ _ _))
  k_with "eval Name" => (((with_reducible show wpAny _ _ (eval (Expr.Name _ _) (compEnvC _ _ _ _)) _ _ _); k_dflt (refine' PySem.W.LCgL.ld_own ?z9k1 ?z9k2 ?z9k3 ?z9k4 ?_; (case z9k1 => k_asm); (case z9k2 => exact List.Mem.head _); (case z9k3 => assumption); (case z9k4 => walk_at "m get"); k_whole)))
  k_with "m mem" => (first | assumption | exact List.Mem.head _ | exact List.mem_append.mpr (Or.inl (by assumption)) | exact List.mem_append.mpr (Or.inr (by assumption)) | (refine List.Mem.tail _ ?_; walk_at "m mem"))
  k_with "subscriptTail" => (((with_reducible show wpAny _ _ (subscriptTail _ _ (Value.ref _) (Value.int _ _)) _ _ _); (refine' item_m ?z9k1 ?z9k2 ?z9k3 ?z9k4 ?z9k5 ?_; (case z9k1 => assumption); (case z9k5 => assumption); (case z9k2 => walk_at "m mem"); (case z9k3 => omega); (case z9k4 => omega); k_whole)))
  k_with "m all" => ((repeat' ((fail_if_success (with_reducible show WStep _ _ _ _ _ _)); first | walk1 | (dsimp only; walk1) | (with_reducible refine ite_neg Bool.false_ne_true ?_) | (with_reducible refine ite_pos rfl ?_))))
  k_with "truthy ref" => ((k_dflt (refine' truthy_D ?z9N ?z9d ?z9m ?z9s ?z9f ?_; (case z9N => assumption); (case z9d => assumption); (case z9m => walk_at "m mem"); (case z9s => assumption); (case z9f => first | assumption | decide | omega); k_whole)))
  k_with "m enter2" => ((   (case kA => exact rfl); (case kF => assumption); (case kK => assumption); (case k1 => assumption); (case k2 => assumption); (case k3 => assumption); (case k4 => assumption); (case k5 => assumption);   (case k6 => k_is); (case k7 => k_is); (case k8 => k_room); (case k9 => first | exact BindsTo.of_eq rfl | exact binds_K (by k_in) rfl (by k_is) rfl rfl rfl); (case c5 => decide); (case kB => exact locs rfl); (case c2 => exact rfl); (case c3 => exact rfl); (case c4 => exact rfl)))
  k_with "truthy ref" => ((k_dflt (refine' truthy_L ?z9N ?z9m ?z9f ?_; (case z9N => assumption); (case z9m => walk_at "m mem"); (case z9f => first | assumption | omega); k_whole)))
  k_with "call type:set" => ((((with_reducible show wpAny _ _ (call (Value.type _) [Value.ref _]) _ _ _); k_dflt (refine' set_new_strsN ?z9F ?z9N ?z9m ?z9v ?z9n ?z9hh ?z9f ?_; (case z9F => assumption); (case z9N => assumption); (case z9m => walk_at "m mem"); (case z9v => assumption); (case z9n => assumption); (case z9hh => exact rfl); (case z9f => first | assumption | omega); k_whole); intro h' tk' D' o' F' N' hS' l1'; (try k_lt l1')); revert h' tk' D' o' F' N' hS' l1'; intro _ _ _ _ _ _ _ _))
  k_with "call type:set nil nil" => (((k_dflt (refine' set_new_0 ?z9F ?z9N ?_; (case z9F => assumption); (case z9N => assumption); k_whole); intro h' D' o' F' N' hS' l1'; (try k_lt l1')); revert h' D' o' F' N' hS' l1'; intro _ _ _ _ _ _ _))
  k_with "getItem ref str" => (((k_dflt (refine' getItem_D ?z9N ?z9d ?z9f ?z9m ?z9s ?z9l ?_; (case z9N => assumption); (case z9d => assumption); (case z9f => assumption); (case z9m => walk_at "m mem"); (case z9s => assumption); (case z9l => assumption); k_whole); intro v' hv'); revert v' hv'; intro _ _))
  k_with "compareOp In str ref" => ((k_dflt (refine' in_set ?z9N ?z9m ?z9d ?_; (case z9N => assumption); (case z9d => assumption); (case z9m => walk_at "m mem"); k_whole)))
  k_with "setItem ref str" => (((k_dflt (refine' setItem_K PyProof.V.same_str (strKind_is _ _ _ _) ?z9v ?z9F ?z9N ?z9U ?z9d ?z9f ?_ ?z9z; (case z9F => assumption); (case z9N => assumption); (case z9U => k_updF); (case z9d => assumption); (case z9f => assumption); (case z9z => (rw [sizeLine_eq]; omega)); (case z9v => k_flat)); intro h' o' F' N' hd' hf'; (try dsimp only at N')); revert h' o' F' N' hd' hf'; intro _ _ _ _ _ _))
  k_with "binaryOp Add str str" => (((refine PyProof.Rows.add_str (hsz := ?z9hsz) ?_); (case z9hsz => (have e1 : (Str.ofString ".").length = 1 := by decide); (have e2 : (Str.ofString "/").length = 1 := by decide); (have e3 : (Str.ofString "/.").length = 2 := by decide); rw [sizeLine_eq]; omega); intro _ _))
  k_with "eval Name" => (((with_reducible show wpAny _ _ (eval (Expr.Name _ _) (compEnvC _ _ _ _)) _ _ _); k_dflt (refine' PySem.W.LCgL.ld_own ?z9k1 ?z9k2 ?z9k3 ?z9k4 ?_; (case z9k1 => k_asm); (case z9k2 => walk_at "m mem"); (case z9k3 => assumption); (case z9k4 => walk_at "m get"); k_whole)))
  k_with "eval Name" => (((with_reducible show wpAny _ _ (eval (Expr.Name _ _) (envOfC _ _ _ _ _)) _ _ _); k_dflt (refine' nameX_L ?z9F ?z9v ?_ ?z9a ?z9b; (case z9F => k_asm); (case z9a => rfl); (case z9b => rfl); (case z9v => walk_at "m get"); k_whole)))
  k_with "callWith" => (first | with_reducible refine PyProof.Rows.callWith_method0 ?_ | with_reducible refine PyProof.Rows.callWith_builtin1 ?_ | with_reducible refine PyProof.Rows.callWith_method1 ?_)
  trivial
theorem kind_K {w : World} {A A₀ : Around} {s : Shared} {h₀ base : Heap} {outer : List Env} {L : Addr} {m mg mb : Str → Option Value} {mean : ExcName → Option Value} {p : Program} {loose : List Str} {news : List (Addr × Obj)} {env : Env} {R : Result → Shared → Prop}
 (B : Below A₀ base outer h₀) (F : Fr h₀ L s.heap m) (X₀ : (Mine.hd.heap_1 w.params).In h₀) (N : News h₀ L s.heap news) (T : Top p loose mean mg mb h₀) (hA : A.frames = some (env :: outer)) (hf : env.frame = some L) (hke : env.scope.kind = .function) {v : Value} {x : Str} {t : Tok}
 (hd : A.depth < 940)
 (h : ∀ h' t' u, Fr h₀ L h' m → News h₀ L h' news → R (.ok (.ret (.str (Str.ofString "") u))) { s with heap := h', toks := t' }) :
 codeAny (model PySem.Challenge.rw_nq0047_02.row.prog w) A (.call (.ref 63) ⟨[v, .str x t], []⟩) R s := by
  revert X₀
  k_fill
  intro X₀
  refine' code_def (binds := [(Str.ofString "name", v), (Str.ofString "x", .str x t)]) ?k1 ?k2 ?k3 ?k4 ?k5 ?kA ?kF ?kK ?k6 ?k7 ?k8 ?k9 ?kB ?_ ?c2 ?c3 ?c4 ?c5
  walk_at "m enter"
  intro g' L' h' FG' F' N' B' X' T'
  clear F N B X₀ T
  refine wpAny_noRaise ?_
  k_fold
  walk_at "m all"
  all_goals exact leaveK_ (by assumption) (by assumption) fun kF kN => h _ _ _ kF kN

theorem cpath_K {w : World} {A A₀ : Around} {s : Shared} {h₀ base : Heap} {outer : List Env} {L : Addr} {m mg mb : Str → Option Value} {mean : ExcName → Option Value} {p : Program} {loose : List Str} {news : List (Addr × Obj)} {env : Env} {R : Result → Shared → Prop}
 (B : Below A₀ base outer h₀) (F : Fr h₀ L s.heap m) (X₀ : (Mine.hd.heap_1 w.params).In h₀) (N : News h₀ L s.heap news) (T : Top p loose mean mg mb h₀) (hA : A.frames = some (env :: outer)) (hf : env.frame = some L) (hke : env.scope.kind = .function) {v1 v2 v3 : Value} {x : Str} {t : Tok} {ta da : Addr} {od : Obj}
 (hd : A.depth < 930) (hta : (ta, ({ cls := .type "tuple", data := .seq [Value.str x t].toArray } : Obj)) ∈ news) (hda : (da, od) ∈ news) (hod : od.IsDictOf (strKind PySem.Challenge.rw_nq0047_02.row.prog w) []) (hds : (da == sysModules) = false)
 (h : ∀ h' t' u, Fr h₀ L h' m → News h₀ L h' news → R (.ok (.ret (.str x u))) { s with heap := h', toks := t' }) :
 codeAny (model PySem.Challenge.rw_nq0047_02.row.prog w) A (.call (.ref 70) ⟨[v1, v2, v3, .ref ta, .ref da], []⟩) R s := by
  revert X₀
  k_fill
  intro X₀
  refine' code_def (binds := [(Str.ofString "name", v1), (Str.ofString "cname", v2), (Str.ofString "argname", v3), (Str.ofString "args", .ref ta), (Str.ofString "kwargs", .ref da)]) ?k1 ?k2 ?k3 ?k4 ?k5 ?kA ?kF ?kK ?k6 ?k7 ?k8 ?k9 ?kB ?_ ?c2 ?c3 ?c4 ?c5
  walk_at "m enter"
  intro g' L' h' FG' F' N' B' X' T'
  clear F N B X₀ T
  refine wpAny_noRaise ?_
  k_fold
  walk_at "m all"
  refine wpAny_call ?_
  refine kind_K (by assumption) (by assumption) (by assumption) (by assumption) (by assumption) (Around.frames_deeper hA) (by exact rfl) (by exact rfl) ?_ ?_
  · k_room
  intro h3 t3 u3 F3 N3
  walk_at "m all"
  exact leaveK_ (by assumption) (by assumption) fun kF kN => h _ _ _ kF kN

theorem normp_K {w : World} {A A₀ : Around} {s : Shared} {h₀ base : Heap} {outer : List Env} {L : Addr} {m mg mb : Str → Option Value} {mean : ExcName → Option Value} {p : Program} {loose : List Str} {env : Env} {R : Result → Shared → Prop}
 (B : Below A₀ base outer h₀) (F : Fr h₀ L s.heap m) (X₀ : (Mine.hd.heap_1 w.params).In h₀) (N : News h₀ L s.heap []) (T : Top p loose mean mg mb h₀) (hA : A.frames = some (env :: outer)) (hf : env.frame = some L) (hke : env.scope.kind = .function) {x r : Str} {t : Tok} (hx : x = Str.ofString "/l/." ∧ r = Str.ofString "/l" ∨ x = Str.ofString "/l/a/." ∧ r = Str.ofString "/l/a")
 (hd : A.depth < 920) (hh : A.handled = none)
 (h : ∀ h' t' u, Fr h₀ L h' m → Kept s.heap h' [] → R (.ok (.ret (.str r u))) { s with heap := h', toks := t' }) :
 codeAny (model PySem.Challenge.rw_nq0047_02.row.prog w) A (.call (.ref 84) ⟨[.str x t], []⟩) R s := by
  obtain ⟨hdl', dep', frs', gs', un'⟩ := A
  replace hA : frs' = some (env :: outer) := hA
  replace hh : hdl' = none := hh
  subst hA hh
  replace hd : dep' < _ := hd
  revert X₀
  k_fill
  intro X₀
  refine' code_defK (binds := [(Str.ofString "path", .str x t)]) ?k1 ?k2 ?k3 ?k4 ?k5 ?kA ?kF ?kK ?k6 ?k7 ?k8 ?k9 ?kB ?_ ?c2 ?c3 ?c4 ?c5
  walk_at "m enter2"
  intro g' L' h' FG' F' N' B' X' T' hK lK
  clear F N B X₀ T
  refine wpAny_noRaise ?_
  k_fold
  rcases hx with ⟨rfl, rfl⟩ | ⟨rfl, rfl⟩
  all_goals
    walk_at "m all"
    exact leaveKept hK (by assumption) (by assumption) fun kF kN kK _ => h _ _ _ kF kK

theorem normpath_K {w : World} {A A₀ : Around} {s : Shared} {h₀ base : Heap} {outer : List Env} {L : Addr} {m mg mb : Str → Option Value} {mean : ExcName → Option Value} {p : Program} {loose : List Str} {news : List (Addr × Obj)} {env : Env} {R : Result → Shared → Prop}
 (B : Below A₀ base outer h₀) (F : Fr h₀ L s.heap m) (X₀ : (Mine.hd.heap_1 w.params).In h₀) (N : News h₀ L s.heap news) (T : Top p loose mean mg mb h₀) (hA : A.frames = some (env :: outer)) (hf : env.frame = some L) (hke : env.scope.kind = .function) {x r : Str} {t : Tok} (hx : x = Str.ofString "/l/." ∧ r = Str.ofString "/l" ∨ x = Str.ofString "/l/a/." ∧ r = Str.ofString "/l/a")
 (hd : A.depth < 910) (hh : A.handled = none)
 (h : ∀ h' t' u, Fr h₀ L h' m → News h₀ L h' news → R (.ok (.ret (.str r u))) { s with heap := h', toks := t' }) :
 codeAny (model PySem.Challenge.rw_nq0047_02.row.prog w) A (.call (.ref 91) ⟨[.str x t], []⟩) R s := by
  revert X₀
  k_fill
  intro X₀
  refine' kp_both (vs := [.str x t]) (ex := []) (DD := []) ?k1 ?k2 ?k3 ?k4 ?k5 ?kA ?kF ?kK ?k6 ?k7 ?k8 ?kV ?kX ?kQ ?kM ?kN ?kD ?kR ?kP ?kS ?kT ?kB ?_ ?c2 ?c3 ?c4 ?c5
  (case kA => assumption); (case kF => assumption); (case kK => assumption); (case k1 => assumption); (case k2 => assumption); (case k3 => assumption); (case k4 => assumption); (case k5 => assumption)
  (case k6 => k_is); (case k7 => k_is); (case k8 => k_room); (case kV => exact rfl); (case kX => exact rfl); (case kQ => exact rfl); (case kM => exact rfl); (case kN => exact rfl); (case kD => exact .nil); (case kR => exact rfl); (case kP => exact rfl); (case kS => exact fun _ => rfl); (case kT => exact fun _ _ => rfl); (case kB => exact fun _ _ => locs rfl); (case c5 => decide); (case c2 => exact rfl); (case c3 => exact rfl); (case c4 => exact rfl)
  intro C' D' o' g' L' h' tk' l1 l2 lo' hs' fs' FG' F' N' B' X' T'
  clear F N B X₀ T
  refine wpAny_noRaise ?_
  k_fold
  walk_at "m all"
  refine wpAny_call ?_
  refine cpath_K (x := x) (t := t) (by assumption) (by assumption) (by assumption) (by assumption) (by assumption) (Around.frames_deeper hA) (by exact rfl) (by exact rfl) ?_ (.tail _ (.head _)) (.head _) hs' lo' ?_
  · k_room
  intro h3 t3 u3 F3 N3
  walk_at "m all"
  refine wpAny_call ?_
  refine normp_K (x := x) (r := r) (t := u3) (by assumption) (by assumption) (by assumption) (news_sub N3 (fun _ hp => nomatch hp)) (by assumption) (Around.frames_deeper hA) (by exact rfl) (by exact rfl) hx ?_ ?_ ?_
  · k_room
  · exact hh
  intro h4 t4 u4 F4 k4
  have N4 := N3.grown k4.all
  walk_at "m all"
  exact leaveK_ F4 (news_sub N4 (fun q hq => .tail _ (.tail _ hq))) fun kF kN => h _ _ _ kF kN
end Mine
end
section
open PySem PySem.W PyProof.Rows PySem.Calls PyProof.Rows.LCg
set_option Elab.async false
set_option maxRecDepth 100000
set_option maxHeartbeats 1000000
namespace Mine
theorem set_back_MComp1 : True := by w_top off; trivial
/-- where a turn of a comprehension ends that leaves the ledger as it is -/
noncomputable def CFin (h₀ : Heap) (L : Addr) (m : Str → Option Value) (C D : Addr) (news own : Led) (J : List Value → Prop) (s : Shared) (ys zs : List Value) (s₄ : Shared) : Prop :=
  ∃ h' tk dr oC mC, s₄ = { s with heap := h', toks := tk, drawn := dr } ∧ Fr h₀ L h' m ∧ NsObj oC mC ∧ News h₀ L h' ((C, oC) :: (D, lst ys) :: (news ++ own)) ∧ J zs
section
variable {prog : Program} {w : World} {A : Around} {E : Value → Shared → Prop} {s : Shared} {env : Env} {h₀ : Heap} {L C I : Addr} {m mC : Str → Option Value} {news own : Led} {oC : Obj} {scope : Scope} {cl : List (Str × Addr)} {elt : PySem.Expr} {ifs : List PySem.Expr} {ads : List Addr} {n : Nat} {P : Nat → Value → Led → Prop} {Ok : Nat → Led → Led → Prop}
  {Q : Value → Shared → Prop} {x : Str} {px : Pos}

theorem csrc1 (X : NextOk prog w A h₀ L (.Name x px) I ads n P Ok) (hself : ∀ (s : Shared) own news, Ok 0 own news → News h₀ L s.heap (own ++ news) → ∀ Q : Value → Shared → Prop, Q (.ref I) s → wpAny (model prog w) A (pyIter (.ref I)) Q NoE s)
    (F : Fr h₀ L s.heap m) (N : News h₀ L s.heap (own ++ news)) (off : Off ads news) (hok : Ok 0 own news) (J : Nat → List Value → Prop) (hn : n ≤ 1000000) (hlen : ∀ i ys, J i ys → ys.length ≤ i) (h0 : J 0 [])
    (hP : ∀ i v ext, P i v ext → ext = []) (hx : scope.names.lookup x = some .local) (hkind : scope.kind = .function)
    (turn : ∀ i v ys own C oC D (mC : Str → Option Value) h tk dr, i < n → P i v [] → J i ys → Off (C :: D :: ads) news → (@Ne Nat C D) → NsObj oC (fun z => if z = x then some v else mC z) → Fr h₀ L h m → News h₀ L h ((C, oC) :: (D, lst ys) :: (news ++ own)) →
      wpAny (model prog w) A (forIn ifs true fun c r => if r = true then do let ok ← isTrue c (compEnvC scope cl C env) (eval c (compEnvC scope cl C env)); pure (ForInStep.yield ok) else pure (ForInStep.yield r)) (fun ok s' =>
          if ok = true then wpAny (model prog w) A (eval elt (compEnvC scope cl C env)) (fun y s' => CFin h₀ L m C D news own (J (i + 1)) s ys (ys ++ [y]) s') NoE s' else CFin h₀ L m C D news own (J (i + 1)) s ys ys s') NoE { s with heap := h, toks := tk, drawn := dr })
    (fin : ∀ D h tk dr ys, Fr h₀ L h m → News h₀ L h ((D, lst ys) :: news) → (∀ p ∈ news, p.1 ≠ D) → J n ys → Q (.ref D) { s with heap := h, toks := tk, drawn := dr }) :
    CSrc prog w A h₀ L env (.Name x px) elt ifs scope cl (FinV h₀ L Q) (.ref I) s := by
  refine ⟨I, ads, own, news, m, n, P, Ok, fun i ys nw => nw = news ∧ J i ys, rfl, X, hself, hn, fun i ys nw h => hlen i ys h.2, F, N, off, hok, ⟨rfl, h0⟩, ?_, ?_⟩
  · rintro i v ys nw own C oC D mC h tk dr ext hi hPv ⟨rfl, hJ⟩ offc hext hCD hoC F2 N2 ok2
    obtain rfl := hP _ _ _ hPv
    rw [List.nil_append] at N2
    have offC : ∀ p ∈ (D, lst ys) :: (nw ++ own), p.1 ≠ C := by
      intro p hp
      rcases List.mem_cons.mp hp with rfl | hp
      · exact Ne.symm hCD.1
      · rcases List.mem_append.mp hp with hp | hp
        · exact fun e => offc p hp (e ▸ .head _)
        · exact fun e => hCD.2.1 (e ▸ X.at_ _ _ _ ok2 p hp)
    refine wpAny_assign_Name ?_
    refine store_comp F2 N2 hoC offC ?_ hx hkind
    intro h4 oC4 hoC4 F4 N4
    refine wpAny_mono (turn i v ys own C oC4 D mC h4 (tk + 1) dr hi hPv hJ offc hCD.1 hoC4 F4 N4) (fun ok s' hs' => ?_) fun _ _ e => e
    have fin1 : ∀ zs s', CFin h₀ L m C D nw own (J (i + 1)) s ys zs s' → CEnd h₀ L m ads C D Ok (fun i ys nw' => nw' = nw ∧ J i ys) s i ys zs s' := by
      rintro zs s' ⟨h', tk', dr', oC', mC', rfl, F', hoC', N', hJ'⟩
      exact ⟨h', tk', dr', own, oC', mC', nw, rfl, F', hoC', N', offc, ok2, rfl, hJ'⟩
    cases ok with
    | true =>
      rw [if_pos rfl] at hs' ⊢
      exact wpAny_mono hs' (fun y s' h' => fin1 _ _ h') fun _ _ e => e
    | false =>
      rw [if_neg Bool.false_ne_true] at hs' ⊢
      exact fin1 _ _ hs'
  · rintro D C oC mC h2 tk2 dr2 ys nw F2 hoC N2 hCD off2 ⟨rfl, hJ⟩ h3 F3 N3 off3
    exact fin D h3 tk2 dr2 ys F3 N3 off3 hJ
end
end Mine
end
section
open PySem PySem.W PyProof.Rows PySem.Calls
open PyProof.Rows.LCg (lst NsObj SrcAt)
open PySem.SeqAt
set_option Elab.async false
set_option maxRecDepth 100000
set_option maxHeartbeats 8000000
namespace Mine
theorem set_back_MInit : True := by w_top off; trivial
theorem words_MInit : True := by
  k_with_none
  k_with "m s0" => ((fail_if_success (with_reducible show WStep _ _ _ _ _ _)); (fail_if_success (with_reducible show wpAny _ _ (eval (Expr.ListComp _ _ _ _) _) _ _ _)); (fail_if_success (with_reducible show wpAny _ _ (exec (Stmt.For _ _ _ _ _) _) _ _ _)); (fail_if_success (with_reducible show wpAny _ _ (exec (Stmt.Assign _ (Expr.ListComp _ _ _ _) _ _) _) _ _ _)))
  k_with "m get" => ((repeat (first | assumption | exact get_eq | refine get_ne (by decide) ?_ | rfl)))
  k_with "eval Name" => (((with_reducible show wpAny _ _ (eval (Expr.Name _ _) (envOf _ _ _ _ _)) _ _ _); k_dflt (refine' ld ?z9k1 ?z9k2 ?_; (case z9k1 => k_asm); (case z9k2 => walk_at "m get"); k_whole)))
  k_with "m go" => ((repeat ((fail_if_success (with_reducible show WStep _ _ _ _ _ _)); first | walk1 | (dsimp only; walk1))))
  k_with "subscriptTail" => (((with_reducible show wpAny _ _ (subscriptTail _ _ (Value.ref _) (Value.int _ _)) _ _ _); (refine' item_h ?z9k1 ?z9k2 ?z9k3 ?z9k4 ?_; (case z9k1 => assumption); (case z9k2 => omega); (case z9k3 => omega); (case z9k4 => assumption); k_whole)))
  k_with "setItem ref int" => ((((with_reducible show wpAny _ _ (setItem (Value.ref _) (Value.int _ _) _) _ _ _); (refine' setItem_h ?z9k1 ?z9k2 ?z9k3 ?z9k4 ?z9k5 ?z9k6 ?_; (case z9k1 => assumption); (case z9k2 => assumption); (case z9k3 => assumption); (case z9k4 => omega); (case z9k5 => assumption); (case z9k6 => omega); k_whole); intro h' F' N'); revert h' F' N'; intro _ _ _))
  k_with "call builtin:len" => (((with_reducible show wpAny _ _ (call (Value.builtin _) [Value.ref _]) _ _ _); (refine' len_h ?z9k1 ?z9k2 ?_; (case z9k1 => assumption); (case z9k2 => first | assumption | (simp only [List.length_append, List.length_cons, List.length_nil]; omega)); k_whole)))
  k_with "call builtin:list.append" => ((((with_reducible show wpAny _ _ (call (Value.builtin _) [Value.ref _, _]) _ _ _); (refine' append_h ?z9k1 ?z9k2 ?z9k3 ?z9k4 ?_; (case z9k1 => assumption); (case z9k2 => assumption); (case z9k3 => assumption); (case z9k4 => omega); k_whole); intro h' F' N'); revert h' F' N'; intro _ _ _))
  k_with "call builtin:list.pop" => ((((with_reducible show wpAny _ _ (call (Value.builtin _) [Value.ref _]) _ _ _); (refine' pop_h ?z9k1 ?z9k2 ?z9k3 ?z9k4 ?_; (case z9k1 => assumption); (case z9k2 => assumption); (case z9k3 => assumption); (case z9k4 => omega); k_whole); intro h' F' N'); revert h' F' N'; intro _ _ _))
  k_with "eval Name" => (((with_reducible show wpAny _ _ (eval (Expr.Name _ _) (compEnvC _ _ _ _)) _ _ _); k_dflt (refine' PySem.W.LCgL.ld_own ?z9k1 ?z9k2 ?z9k3 ?z9k4 ?_; (case z9k1 => k_asm); (case z9k2 => exact List.Mem.head _); (case z9k3 => assumption); (case z9k4 => walk_at "m get"); k_whole)))
  k_with "m mem" => (first | assumption | exact List.Mem.head _ | exact List.mem_append.mpr (Or.inl (by assumption)) | exact List.mem_append.mpr (Or.inr (by assumption)) | (refine List.Mem.tail _ ?_; walk_at "m mem"))
  k_with "subscriptTail" => (((with_reducible show wpAny _ _ (subscriptTail _ _ (Value.ref _) (Value.int _ _)) _ _ _); (refine' item_m ?z9k1 ?z9k2 ?z9k3 ?z9k4 ?z9k5 ?_; (case z9k1 => assumption); (case z9k5 => assumption); (case z9k2 => walk_at "m mem"); (case z9k3 => omega); (case z9k4 => omega); k_whole)))
  k_with "truthy ref" => ((k_dflt (refine' truthy_D ?z9N ?z9d ?z9m ?z9s ?z9f ?_; (case z9N => assumption); (case z9d => assumption); (case z9m => walk_at "m mem"); (case z9s => assumption); (case z9f => first | assumption | decide | omega); k_whole)))
  k_with "m enter2" => ((   (case kA => exact rfl); (case kF => assumption); (case kK => assumption); (case k1 => assumption); (case k2 => assumption); (case k3 => assumption); (case k4 => assumption); (case k5 => assumption);   (case k6 => k_is); (case k7 => k_is); (case k8 => k_room); (case k9 => first | exact BindsTo.of_eq rfl | exact binds_K (by k_in) rfl (by k_is) rfl rfl rfl); (case c5 => decide); (case kB => exact locs rfl); (case c2 => exact rfl); (case c3 => exact rfl); (case c4 => exact rfl)))
  k_with "m iter list" => ((refine' iter_listN ?z9kF ?z9kN ?z9kS ?_; (case z9kF => assumption); (case z9kN => assumption); (case z9kS => walk_at "m mem")))
  k_with "truthy ref" => ((k_dflt (refine' truthy_L ?z9N ?z9m ?z9f ?_; (case z9N => assumption); (case z9m => walk_at "m mem"); (case z9f => first | assumption | omega); k_whole)))
  k_with "call type:set" => ((((with_reducible show wpAny _ _ (call (Value.type _) [Value.ref _]) _ _ _); k_dflt (refine' set_new_strsN ?z9F ?z9N ?z9m ?z9v ?z9n ?z9hh ?z9f ?_; (case z9F => assumption); (case z9N => assumption); (case z9m => walk_at "m mem"); (case z9v => assumption); (case z9n => assumption); (case z9hh => exact rfl); (case z9f => first | assumption | omega); k_whole); intro h' tk' D' o' F' N' hS' l1'; (try k_lt l1')); revert h' tk' D' o' F' N' hS' l1'; intro _ _ _ _ _ _ _ _))
  k_with "call type:set nil nil" => (((k_dflt (refine' set_new_0 ?z9F ?z9N ?_; (case z9F => assumption); (case z9N => assumption); k_whole); intro h' D' o' F' N' hS' l1'; (try k_lt l1')); revert h' D' o' F' N' hS' l1'; intro _ _ _ _ _ _ _))
  k_with "m run" => ((repeat' (walk_at "m s0"; first | walk1 | (dsimp only; walk1) | (with_reducible refine ite_neg Bool.false_ne_true ?_) | (with_reducible refine ite_pos rfl ?_))))
  k_with "getItem ref str" => (((k_dflt (refine' getItem_D ?z9N ?z9d ?z9f ?z9m ?z9s ?z9l ?_; (case z9N => assumption); (case z9d => assumption); (case z9f => assumption); (case z9m => walk_at "m mem"); (case z9s => assumption); (case z9l => assumption); k_whole); intro v' hv'); revert v' hv'; intro _ _))
  k_with "compareOp In str ref" => ((k_dflt (refine' in_set ?z9N ?z9m ?z9d ?_; (case z9N => assumption); (case z9d => assumption); (case z9m => walk_at "m mem"); k_whole)))
  k_with "setItem ref str" => (((k_dflt (refine' setItem_K PyProof.V.same_str (strKind_is _ _ _ _) ?z9v ?z9F ?z9N ?z9U ?z9d ?z9f ?_ ?z9z; (case z9F => assumption); (case z9N => assumption); (case z9U => k_updF); (case z9d => assumption); (case z9f => assumption); (case z9z => (rw [sizeLine_eq]; omega)); (case z9v => k_flat)); intro h' o' F' N' hd' hf'; (try dsimp only at N')); revert h' o' F' N' hd' hf'; intro _ _ _ _ _ _))
  k_with "binaryOp Add str str" => (((refine PyProof.Rows.add_str (hsz := ?z9hsz) ?_); (case z9hsz => (have e1 : (Str.ofString ".").length = 1 := by decide); (have e2 : (Str.ofString "/").length = 1 := by decide); (have e3 : (Str.ofString "/.").length = 2 := by decide); rw [sizeLine_eq]; omega); intro _ _))
  k_with "eval Name" => (((with_reducible show wpAny _ _ (eval (Expr.Name _ _) (compEnvC _ _ _ _)) _ _ _); k_dflt (refine' PySem.W.LCgL.ld_own ?z9k1 ?z9k2 ?z9k3 ?z9k4 ?_; (case z9k1 => k_asm); (case z9k2 => walk_at "m mem"); (case z9k3 => assumption); (case z9k4 => walk_at "m get"); k_whole)))
  k_with "eval Name" => (((with_reducible show wpAny _ _ (eval (Expr.Name _ _) (envOfC _ _ _ _ _)) _ _ _); k_dflt (refine' nameX_L ?z9F ?z9v ?_ ?z9a ?z9b; (case z9F => k_asm); (case z9a => rfl); (case z9b => rfl); (case z9v => walk_at "m get"); k_whole)))
  k_with "callWith" => (first | with_reducible refine PyProof.Rows.callWith_method0 ?_ | with_reducible refine PyProof.Rows.callWith_builtin1 ?_ | with_reducible refine PyProof.Rows.callWith_method1 ?_)
  trivial
noncomputable def normS (x : Str) : Str := if x = Str.ofString "/l/." then Str.ofString "/l" else Str.ofString "/l/a"
abbrev igEnt (P : Params) (sm sd si : Addr) (t1 t2 t3 : Tok) : List DictEntry :=
  [{ hash := PyData.keyHash P (Str.ofString "_mods"), key := .str (Str.ofString "_mods") t1, val := .ref sm }, { hash := PyData.keyHash P (Str.ofString "_dirs"), key := .str (Str.ofString "_dirs") t2, val := .ref sd },
   { hash := PyData.keyHash P (Str.ofString "_ignore"), key := .str (Str.ofString "_ignore") t3, val := .ref si }]
abbrev rdr (P : Params) (x dx sm sd si : Addr) (om oi : Obj) (vd : List Value) (q : Nat) (t1 t2 t3 : Tok) : Led :=
  [(si, oi), (sd, listOf vd.toArray q), (sm, om), (x, instObj 114 dx), (dx, dictOf (igEnt P sm sd si t1 t2 t3) 3)]
/-- a reader's parts -/
structure RdrOk (w : World) (x dx sm sd si : Addr) (om oi : Obj) (vd : List Value) (kvs : List (Str × Value)) (D : List (PyData × PyData)) (xs ds : List Str) : Prop where
  set : SetStrs PySem.Challenge.rw_nq0047_02.row.prog w om xs
  dirs : StrList vd ds
  ign : oi.IsDictOf (strKind PySem.Challenge.rw_nq0047_02.row.prog w) kvs
  flat : PyProof.V.FlatPairs PyData.str kvs D
  sys : (si == sysModules) = false
  dxi : @LT.lt Nat _ dx si
  xi : @LT.lt Nat _ x si
  smi : @LT.lt Nat _ sm si
  sdi : @LT.lt Nat _ sd si
theorem init_K {x dx lm ld : Addr} {vm vd : List Value} {qm qd : Nat} {w : World} {A A₀ : Around} {s : Shared} {h₀ base : Heap} {outer : List Env} {L : Addr} {m mg mb : Str → Option Value} {mean : ExcName → Option Value} {p : Program} {loose : List Str} {env : Env} {R : Result → Shared → Prop}
 (B : Below A₀ base outer h₀) (F : Fr h₀ L s.heap m) (X₀ : (Mine.hd.heap_1 w.params).In h₀) (N : News h₀ L s.heap ([(x, instObj 114 dx), (dx, dictOf [] 0), (lm, listOf vm.toArray qm), (ld, listOf vd.toArray qd)])) (T : Top p loose mean mg mb h₀) (hA : A.frames = some (env :: outer)) (hf : env.frame = some L) (hke : env.scope.kind = .function) {xs ds : List Str}
 (hd : A.depth < 800) (hh : A.handled = none) (hvm : vm.length < 1000) (hvd : vd.length < 1000) (hv : StrList vm xs) (hn : xs.Nodup) (hx : xs.length < 100) (h1 : @LT.lt Nat _ dx x) (h2 : @LT.lt Nat _ lm dx) (h3 : @LT.lt Nat _ ld dx)
 (hds : StrList vd ds) (hdn : ∀ d ∈ ds, d = Str.ofString "/l/." ∨ d = Str.ofString "/l/a/.")
 (h : ∀ h' tk sm sd si om oi vd' q t1 t2 t3 u1 dr, Fr h₀ L h' m → News h₀ L h' (rdr w.params x dx sm sd si om oi vd' q t1 t2 t3 ++ [(lm, listOf vm.toArray qm), (ld, listOf vd.toArray qd)]) → RdrOk w x dx sm sd si om oi vd' [(Str.ofString "<string>", .int 1 u1)] [(.str (Str.ofString "<string>"), .int 1)] xs (ds.map normS) →
   Kept s.heap h' [x, dx, lm, ld] → Apart s.heap [x, dx, lm, ld] (rdr w.params x dx sm sd si om oi vd' q t1 t2 t3 ++ [(lm, listOf vm.toArray qm), (ld, listOf vd.toArray qd)]) → R (.ok (.ret .none)) { s with heap := h', toks := tk, drawn := dr }) :
 codeAny (model PySem.Challenge.rw_nq0047_02.row.prog w) A (.call (.ref 104) ⟨[.ref x, .ref lm, .ref ld], []⟩) R s := by
  obtain ⟨hdl', dep', frs', gs', un'⟩ := A
  replace hA : frs' = some (env :: outer) := hA
  replace hh : hdl' = none := hh
  subst hA hh
  replace hd : dep' < _ := hd
  revert X₀
  k_fill
  intro X₀
  refine' code_defK (binds := [(Str.ofString "self", .ref x), (Str.ofString "modules", .ref lm), (Str.ofString "dirs", .ref ld)]) ?k1 ?k2 ?k3 ?k4 ?k5 ?kA ?kF ?kK ?k6 ?k7 ?k8 ?k9 ?kB ?_ ?c2 ?c3 ?c4 ?c5
  walk_at "m enter2"
  intro g' L' h' FG' F' N' B' X' T' hK lK
  clear F N B X₀ T
  refine wpAny_noRaise ?_
  k_fold
  have noX : vm.isEmpty = true → xs = [] := fun e => by have := hv.1; rw [List.isEmpty_iff.mp e] at this; exact List.length_eq_zero_iff.mp this.symm
  have noD : vd.isEmpty = true → ds = [] := fun e => by have := hds.1; rw [List.isEmpty_iff.mp e] at this; exact List.length_eq_zero_iff.mp this.symm
  walk_at "m run"
  · obtain rfl := noX (by assumption)
    obtain rfl := noD (by assumption)
    dsimp only at *
    exact leaveKept hK (by assumption) (by assumption) fun kF kN kK kA => h _ _ _ _ _ _ _ [] _ _ _ _ _ _ kF kN ⟨by assumption, StrList.nil, by assumption, by assumption, by assumption, by omega, by omega, by omega, by omega⟩ kK kA
  · obtain rfl := noX (by assumption)
    refine comp_eval (h₀ := g') (L := L') rfl ?_ rfl ?_ ?_
    · decide
    · decide
    walk_at "m go"
    walk_at "m iter list"
    intro h1 I own F1 N1 off1 ok1
    refine csrc1 (nextOk_list rfl) self_list F1 N1 off1 ok1 (fun i ys => StrList ys ((ds.map normS).take i)) ?_ ?_ StrList.nil (fun _ _ _ h => h.2) rfl rfl ?_ ?_
    · rw [List.size_toArray]; omega
    · intro i ys hi; rw [hi.1, List.length_take]; exact Nat.min_le_left _ _
    · intro i v ys own C oC D mC h tk dr hi hP hJ offc hCD hoC F2 N2
      have hids : i < ds.length := by have := hds.1; rw [List.size_toArray] at hi; omega
      obtain ⟨u, hu⟩ := hds.2 i hids
      obtain rfl : v = .str ds[i] u := by have := hP.1; rw [List.getElem?_toArray, hu] at this; cases this; rfl
      refine wpAny_pure ?_
      with_reducible refine ite_pos rfl ?_
      walk_at "m go"
      refine wpAny_call ?_
      refine normpath_K (x := ds[i]) (r := normS ds[i]) (by assumption) F2 (by assumption) N2 (by assumption) rfl rfl rfl ?_ ?_ rfl ?_
      · rcases hdn _ (List.getElem_mem hids) with e | e <;> rw [e]
        · exact .inl ⟨rfl, rfl⟩
        · exact .inr ⟨rfl, rfl⟩
      · k_room
      intro h3 t3 u3 F3 N3
      refine ⟨h3, _, _, oC, _, rfl, F3, hoC, N3, ?_⟩
      have := hJ.step (by simpa using hids) u3
      simpa using this
    · intro D h9 tk dr ys F2 N2 off2 hJ
      have hJ' : StrList ys (ds.map normS) := by
        have e : (ds.map normS).take vd.toArray.size = ds.map normS := by
          rw [List.size_toArray, hds.1, List.take_of_length_le (by simp)]
        rw [e] at hJ; exact hJ
      replace off2 := allNe_of off2
      simp only [AllNe, and_true] at off2
      walk_at "m run"
      dsimp only at *
      exact leaveKept hK (by assumption) (by assumption) fun kF kN kK kA => h _ _ _ _ _ _ _ ys _ _ _ _ _ _ kF kN ⟨by assumption, by assumption, by assumption, by assumption, by assumption, by omega, by omega, by omega, by omega⟩ kK kA
  · obtain rfl := noD (by assumption)
    dsimp only at *
    exact leaveKept hK (by assumption) (by assumption) fun kF kN kK kA => h _ _ _ _ _ _ _ [] _ _ _ _ _ _ kF kN ⟨by assumption, StrList.nil, by assumption, by assumption, by assumption, by omega, by omega, by omega, by omega⟩ kK kA
  · skip
    refine comp_eval (h₀ := g') (L := L') rfl ?_ rfl ?_ ?_
    · decide
    · decide
    walk_at "m go"
    walk_at "m iter list"
    intro h1 I own F1 N1 off1 ok1
    refine csrc1 (nextOk_list rfl) self_list F1 N1 off1 ok1 (fun i ys => StrList ys ((ds.map normS).take i)) ?_ ?_ StrList.nil (fun _ _ _ h => h.2) rfl rfl ?_ ?_
    · rw [List.size_toArray]; omega
    · intro i ys hi; rw [hi.1, List.length_take]; exact Nat.min_le_left _ _
    · intro i v ys own C oC D mC h tk dr hi hP hJ offc hCD hoC F2 N2
      have hids : i < ds.length := by have := hds.1; rw [List.size_toArray] at hi; omega
      obtain ⟨u, hu⟩ := hds.2 i hids
      obtain rfl : v = .str ds[i] u := by have := hP.1; rw [List.getElem?_toArray, hu] at this; cases this; rfl
      refine wpAny_pure ?_
      with_reducible refine ite_pos rfl ?_
      walk_at "m go"
      refine wpAny_call ?_
      refine normpath_K (x := ds[i]) (r := normS ds[i]) (by assumption) F2 (by assumption) N2 (by assumption) rfl rfl rfl ?_ ?_ rfl ?_
      · rcases hdn _ (List.getElem_mem hids) with e | e <;> rw [e]
        · exact .inl ⟨rfl, rfl⟩
        · exact .inr ⟨rfl, rfl⟩
      · k_room
      intro h3 t3 u3 F3 N3
      refine ⟨h3, _, _, oC, _, rfl, F3, hoC, N3, ?_⟩
      have := hJ.step (by simpa using hids) u3
      simpa using this
    · intro D h9 tk dr ys F2 N2 off2 hJ
      have hJ' : StrList ys (ds.map normS) := by
        have e : (ds.map normS).take vd.toArray.size = ds.map normS := by
          rw [List.size_toArray, hds.1, List.take_of_length_le (by simp)]
        rw [e] at hJ; exact hJ
      replace off2 := allNe_of off2
      simp only [AllNe, and_true] at off2
      walk_at "m run"
      dsimp only at *
      exact leaveKept hK (by assumption) (by assumption) fun kF kN kK kA => h _ _ _ _ _ _ _ ys _ _ _ _ _ _ kF kN ⟨by assumption, by assumption, by assumption, by assumption, by assumption, by omega, by omega, by omega, by omega⟩ kK kA
end Mine
end
section
open PySem PySem.W PyProof.Rows PySem.Calls
open PyProof.Rows.LCg (lst NsObj SrcAt)
open PySem.SeqAt
set_option Elab.async false
set_option maxRecDepth 100000
set_option maxHeartbeats 8000000
namespace Mine
theorem set_back_MNames : True := by w_top off; trivial
theorem words_MNames : True := by
  k_with_none
  k_with "m s0" => ((fail_if_success (with_reducible show WStep _ _ _ _ _ _)); (fail_if_success (with_reducible show wpAny _ _ (eval (Expr.ListComp _ _ _ _) _) _ _ _)); (fail_if_success (with_reducible show wpAny _ _ (exec (Stmt.For _ _ _ _ _) _) _ _ _)); (fail_if_success (with_reducible show wpAny _ _ (exec (Stmt.Assign _ (Expr.ListComp _ _ _ _) _ _) _) _ _ _)))
  k_with "m get" => ((repeat (first | assumption | exact get_eq | refine get_ne (by decide) ?_ | rfl)))
  k_with "eval Name" => (((with_reducible show wpAny _ _ (eval (Expr.Name _ _) (envOf _ _ _ _ _)) _ _ _); k_dflt (refine' ld ?z9k1 ?z9k2 ?_; (case z9k1 => k_asm); (case z9k2 => walk_at "m get"); k_whole)))
  k_with "m go" => ((repeat ((fail_if_success (with_reducible show WStep _ _ _ _ _ _)); first | walk1 | (dsimp only; walk1))))
  k_with "subscriptTail" => (((with_reducible show wpAny _ _ (subscriptTail _ _ (Value.ref _) (Value.int _ _)) _ _ _); (refine' item_h ?z9k1 ?z9k2 ?z9k3 ?z9k4 ?_; (case z9k1 => assumption); (case z9k2 => omega); (case z9k3 => omega); (case z9k4 => assumption); k_whole)))
  k_with "setItem ref int" => ((((with_reducible show wpAny _ _ (setItem (Value.ref _) (Value.int _ _) _) _ _ _); (refine' setItem_h ?z9k1 ?z9k2 ?z9k3 ?z9k4 ?z9k5 ?z9k6 ?_; (case z9k1 => assumption); (case z9k2 => assumption); (case z9k3 => assumption); (case z9k4 => omega); (case z9k5 => assumption); (case z9k6 => omega); k_whole); intro h' F' N'); revert h' F' N'; intro _ _ _))
  k_with "call builtin:len" => (((with_reducible show wpAny _ _ (call (Value.builtin _) [Value.ref _]) _ _ _); (refine' len_h ?z9k1 ?z9k2 ?_; (case z9k1 => assumption); (case z9k2 => first | assumption | (simp only [List.length_append, List.length_cons, List.length_nil]; omega)); k_whole)))
  k_with "call builtin:list.append" => ((((with_reducible show wpAny _ _ (call (Value.builtin _) [Value.ref _, _]) _ _ _); (refine' append_h ?z9k1 ?z9k2 ?z9k3 ?z9k4 ?_; (case z9k1 => assumption); (case z9k2 => assumption); (case z9k3 => assumption); (case z9k4 => omega); k_whole); intro h' F' N'); revert h' F' N'; intro _ _ _))
  k_with "call builtin:list.pop" => ((((with_reducible show wpAny _ _ (call (Value.builtin _) [Value.ref _]) _ _ _); (refine' pop_h ?z9k1 ?z9k2 ?z9k3 ?z9k4 ?_; (case z9k1 => assumption); (case z9k2 => assumption); (case z9k3 => assumption); (case z9k4 => omega); k_whole); intro h' F' N'); revert h' F' N'; intro _ _ _))
  k_with "eval Name" => (((with_reducible show wpAny _ _ (eval (Expr.Name _ _) (compEnvC _ _ _ _)) _ _ _); k_dflt (refine' PySem.W.LCgL.ld_own ?z9k1 ?z9k2 ?z9k3 ?z9k4 ?_; (case z9k1 => k_asm); (case z9k2 => exact List.Mem.head _); (case z9k3 => assumption); (case z9k4 => walk_at "m get"); k_whole)))
  k_with "m mem" => (first | assumption | exact List.Mem.head _ | exact List.mem_append.mpr (Or.inl (by assumption)) | exact List.mem_append.mpr (Or.inr (by assumption)) | (refine List.Mem.tail _ ?_; walk_at "m mem"))
  k_with "subscriptTail" => (((with_reducible show wpAny _ _ (subscriptTail _ _ (Value.ref _) (Value.int _ _)) _ _ _); (refine' item_m ?z9k1 ?z9k2 ?z9k3 ?z9k4 ?z9k5 ?_; (case z9k1 => assumption); (case z9k5 => assumption); (case z9k2 => walk_at "m mem"); (case z9k3 => omega); (case z9k4 => omega); k_whole)))
  k_with "truthy ref" => ((k_dflt (refine' truthy_D ?z9N ?z9d ?z9m ?z9s ?z9f ?_; (case z9N => assumption); (case z9d => assumption); (case z9m => walk_at "m mem"); (case z9s => assumption); (case z9f => first | assumption | decide | omega); k_whole)))
  k_with "m enter2" => ((   (case kA => exact rfl); (case kF => assumption); (case kK => assumption); (case k1 => assumption); (case k2 => assumption); (case k3 => assumption); (case k4 => assumption); (case k5 => assumption);   (case k6 => k_is); (case k7 => k_is); (case k8 => k_room); (case k9 => first | exact BindsTo.of_eq rfl | exact binds_K (by k_in) rfl (by k_is) rfl rfl rfl); (case c5 => decide); (case kB => exact locs rfl); (case c2 => exact rfl); (case c3 => exact rfl); (case c4 => exact rfl)))
  k_with "m iter list" => ((refine' iter_listN ?z9kF ?z9kN ?z9kS ?_; (case z9kF => assumption); (case z9kN => assumption); (case z9kS => walk_at "m mem")))
  k_with "truthy ref" => ((k_dflt (refine' truthy_L ?z9N ?z9m ?z9f ?_; (case z9N => assumption); (case z9m => walk_at "m mem"); (case z9f => first | assumption | omega); k_whole)))
  k_with "call type:set" => ((((with_reducible show wpAny _ _ (call (Value.type _) [Value.ref _]) _ _ _); k_dflt (refine' set_new_strsN ?z9F ?z9N ?z9m ?z9v ?z9n ?z9hh ?z9f ?_; (case z9F => assumption); (case z9N => assumption); (case z9m => walk_at "m mem"); (case z9v => assumption); (case z9n => assumption); (case z9hh => exact rfl); (case z9f => first | assumption | omega); k_whole); intro h' tk' D' o' F' N' hS' l1'; (try k_lt l1')); revert h' tk' D' o' F' N' hS' l1'; intro _ _ _ _ _ _ _ _))
  k_with "call type:set nil nil" => (((k_dflt (refine' set_new_0 ?z9F ?z9N ?_; (case z9F => assumption); (case z9N => assumption); k_whole); intro h' D' o' F' N' hS' l1'; (try k_lt l1')); revert h' D' o' F' N' hS' l1'; intro _ _ _ _ _ _ _))
  k_with "m run" => ((repeat' (walk_at "m s0"; first | walk1 | (dsimp only; walk1) | (with_reducible refine ite_neg Bool.false_ne_true ?_) | (with_reducible refine ite_pos rfl ?_))))
  k_with "getItem ref str" => (((k_dflt (refine' getItem_D ?z9N ?z9d ?z9f ?z9m ?z9s ?z9l ?_; (case z9N => assumption); (case z9d => assumption); (case z9f => assumption); (case z9m => walk_at "m mem"); (case z9s => assumption); (case z9l => assumption); k_whole); intro v' hv'); revert v' hv'; intro _ _))
  k_with "compareOp In str ref" => ((k_dflt (refine' in_set ?z9N ?z9m ?z9d ?_; (case z9N => assumption); (case z9d => assumption); (case z9m => walk_at "m mem"); k_whole)))
  k_with "setItem ref str" => (((k_dflt (refine' setItem_K PyProof.V.same_str (strKind_is _ _ _ _) ?z9v ?z9F ?z9N ?z9U ?z9d ?z9f ?_ ?z9z; (case z9F => assumption); (case z9N => assumption); (case z9U => k_updF); (case z9d => assumption); (case z9f => assumption); (case z9z => (rw [sizeLine_eq]; omega)); (case z9v => k_flat)); intro h' o' F' N' hd' hf'; (try dsimp only at N')); revert h' o' F' N' hd' hf'; intro _ _ _ _ _ _))
  k_with "binaryOp Add str str" => (((refine PyProof.Rows.add_str (hsz := ?z9hsz) ?_); (case z9hsz => (have e1 : (Str.ofString ".").length = 1 := by decide); (have e2 : (Str.ofString "/").length = 1 := by decide); (have e3 : (Str.ofString "/.").length = 2 := by decide); rw [sizeLine_eq]; omega); intro _ _))
  k_with "eval Name" => (((with_reducible show wpAny _ _ (eval (Expr.Name _ _) (compEnvC _ _ _ _)) _ _ _); k_dflt (refine' PySem.W.LCgL.ld_own ?z9k1 ?z9k2 ?z9k3 ?z9k4 ?_; (case z9k1 => k_asm); (case z9k2 => walk_at "m mem"); (case z9k3 => assumption); (case z9k4 => walk_at "m get"); k_whole)))
  k_with "eval Name" => (((with_reducible show wpAny _ _ (eval (Expr.Name _ _) (envOfC _ _ _ _ _)) _ _ _); k_dflt (refine' nameX_L ?z9F ?z9v ?_ ?z9a ?z9b; (case z9F => k_asm); (case z9a => rfl); (case z9b => rfl); (case z9v => walk_at "m get"); k_whole)))
  k_with "callWith" => (first | with_reducible refine PyProof.Rows.callWith_method0 ?_ | with_reducible refine PyProof.Rows.callWith_builtin1 ?_ | with_reducible refine PyProof.Rows.callWith_method1 ?_)
  trivial
noncomputable def modHit (xs : List Str) (md : Str) : Bool := decide (md ∈ xs) || xs.any fun x => Txt.startswith md (x ++ Str.ofString ".")
noncomputable def dirHit (ds : List Str) (fn : Option Str) : Bool := match fn with | none => true | some f => ds.any fun d => Txt.startswith f (d ++ Str.ofString "/")
noncomputable def namesN (xs ds : List Str) (fn : Option Str) (md : Str) : Int := if modHit xs md || dirHit ds fn then 1 else 0
noncomputable def namesV (xs ds : List Str) (D : List (PyData × PyData)) (fn : Option Str) (md : Str) : PyData := (Spec.lookup (PyData.str md) D).getD (.int (namesN xs ds fn md))
noncomputable def namesD (xs ds : List Str) (D : List (PyData × PyData)) (fn : Option Str) (md : Str) : List (PyData × PyData) := if (Spec.lookup (PyData.str md) D).isSome then D else PyProof.V.putD (.str md) (.int (namesN xs ds fn md)) D
theorem news_left {h₀ h : Heap} {L : Addr} {a b : Led} (N : News h₀ L h (a ++ b)) : News h₀ L h a := fun p hp => N p (List.mem_append.mpr (.inl hp))
theorem names_K {x dx sm sd si : Addr} {om oi : Obj} {vd : List Value} {q : Nat} {t1 t2 t3 : Tok} {w : World} {A A₀ : Around} {s : Shared} {h₀ base : Heap} {outer : List Env} {L : Addr} {m mg mb : Str → Option Value} {mean : ExcName → Option Value} {p : Program} {loose : List Str} {env : Env} {R : Result → Shared → Prop}
 (B : Below A₀ base outer h₀) (F : Fr h₀ L s.heap m) (X₀ : (Mine.hd.heap_1 w.params).In h₀) (N : News h₀ L s.heap (rdr w.params x dx sm sd si om oi vd q t1 t2 t3)) (T : Top p loose mean mg mb h₀) (hA : A.frames = some (env :: outer)) (hf : env.frame = some L) (hke : env.scope.kind = .function)
 {kvs : List (Str × Value)} {D : List (PyData × PyData)} {xs ds : List Str} (hr : RdrOk w x dx sm sd si om oi vd kvs D xs ds) (hD : D.length < 1000) (hds : ds.length < 1000) (hxl : ∀ x ∈ xs, x.length < 1000) (hdl : ∀ d ∈ ds, d.length < 1000) {fv : Value} {fn : Option Str} {md : Str} {u : Tok} (hfv : fv = .none ∧ fn = none ∨ ∃ f u, fv = .str f u ∧ fn = some f)
 (hd : A.depth < 800) (hh : A.handled = none)
 (h : ∀ h' tk dr oi' kvs', Fr h₀ L h' m → News h₀ L h' (rdr w.params x dx sm sd si om oi' vd q t1 t2 t3) → RdrOk w x dx sm sd si om oi' vd kvs' (namesD xs ds D fn md) xs ds → Kept s.heap h' [si, sd, sm, x, dx] → Apart s.heap [si, sd, sm, x, dx] (rdr w.params x dx sm sd si om oi' vd q t1 t2 t3) →
   ∀ v, PyProof.V.Flat v (namesV xs ds D fn md) → R (.ok (.ret v)) { s with heap := h', toks := tk, drawn := dr }) :
 codeAny (model PySem.Challenge.rw_nq0047_02.row.prog w) A (.call (.ref 111) ⟨[.ref x, fv, .str md u], []⟩) R s := by
  have hr' := hr
  obtain ⟨hset, hdirs, hign, hflat, hsys, hdxi, hxi, hsmi, hsdi⟩ := hr
  obtain ⟨hdl', dep', frs', gs', un'⟩ := A
  replace hA : frs' = some (env :: outer) := hA
  replace hh : hdl' = none := hh
  subst hA hh
  replace hd : dep' < _ := hd
  revert X₀
  k_fill
  intro X₀
  refine' code_defK (binds := [(Str.ofString "self", .ref x), (Str.ofString "filename", fv), (Str.ofString "modulename", .str md u)]) ?k1 ?k2 ?k3 ?k4 ?k5 ?kA ?kF ?kK ?k6 ?k7 ?k8 ?k9 ?kB ?_ ?c2 ?c3 ?c4 ?c5
  walk_at "m enter2"
  intro g' L' h' FG' F' N' B' X' T' hK lK
  clear F N B X₀ T
  refine wpAny_noRaise ?_
  k_fold
  have fin : ∀ (h9 : Heap) (tk : Nat) (dr : Drawn) (o9 : Obj) (m9 : Str → Option Value) (kvs9 : List (Str × Value)) (n : Int) (t : Tok), (Spec.lookup (PyData.str md) D).isSome = false → namesN xs ds fn md = n → Fr g' L' h9 m9 → News g' L' h9 (rdr w.params x dx sm sd si om o9 vd q t1 t2 t3) →
      o9.IsDictOf (strKind PySem.Challenge.rw_nq0047_02.row.prog w) kvs9 → PyProof.V.FlatPairs PyData.str kvs9 (PyProof.V.putD (.str md) (.int n) D) → LeaveK h₀ L m g' R (.int n t) { s with heap := h9, toks := tk, drawn := dr } := by
    intro h9 tk dr o9 m9 kvs9 n t hs1 e1 F9 N9 hd9 hf9
    refine leaveKept hK F9 N9 fun kF kN kK kA => h _ _ _ _ kvs9 kF kN ⟨hset, hdirs, hd9, ?_, hsys, hdxi, hxi, hsmi, hsdi⟩ kK kA _ ?_
    · unfold namesD; rw [hs1, e1]; exact hf9
    · unfold namesV
      rw [Option.isSome_eq_false_iff.mp hs1 |> Option.isNone_iff_eq_none.mp, e1]; exact .int _ _
  walk_at "m run"
  · have hs1 := ‹(Spec.lookup (PyData.str md) D).isSome = true›
    rename_i v1 hv1
    refine leaveKept hK (by assumption) (by assumption) fun kF kN kK kA => h _ _ _ _ kvs kF kN ?_ kK kA _ ?_
    · unfold namesD; rw [if_pos hs1]; exact hr'
    · unfold namesV
      obtain ⟨dv, hdv⟩ := Option.isSome_iff_exists.mp hs1
      rw [hdv] at hv1 ⊢; exact hv1
  · have hs1 := ‹(Spec.lookup (PyData.str md) D).isSome = false›
    exact fin _ _ _ _ _ _ 1 _ hs1 (by unfold namesN modHit; rw [if_pos]; simp_all) (by assumption) (by assumption) (by assumption) (by assumption)
  · have hs1 := ‹(Spec.lookup (PyData.str md) D).isSome = false›
    refine wpAny_For ?_
    walk_at "m go"
    refine iter_strs (by assumption) (by assumption) (.tail _ (.tail _ (.head _))) hset ?_
    intro h1 dr1 I ads own its ys Ok hsz hys hstr hnx F1 N1 off1 ok1
    refine for_walk (hnx _ _ rfl) (fun i m₁ news₁ => news₁ = rdr w.params x dx sm sd si om oi vd q t1 t2 t3 ∧ m₁ (Str.ofString "self") = some (.ref x) ∧ m₁ (Str.ofString "filename") = some fv ∧ m₁ (Str.ofString "modulename") = some (.str md u) ∧ ∀ y ∈ ys.take i, Txt.startswith md (y ++ Str.ofString ".") = false) F1 N1 off1 ok1 ⟨rfl, rfl, rfl, rfl, fun y hy => by simp at hy⟩ ?_ ?_ (fun _ _ q => q)
    · rintro i v m₁ nw own' h2 tk2 dr2 ext hi ⟨hiv, rfl⟩ ⟨rfl, hm1, hm2, hm3, hno⟩ off2 hext F2 N2 ok2
      have hiy : i < ys.length := by have := hstr.1; simp at this; omega
      obtain ⟨u9, hu9⟩ := hstr.2 i hiy
      rw [← Array.getElem?_toList, hu9] at hiv
      obtain rfl := Option.some.inj hiv
      clear hiv
      have hyl : ys[i].length < 1000 := hxl _ ((hys _).mp (List.getElem_mem _))
      have hoff : ∀ p ∈ own', p.1 ≠ si := fun p hp e => off2 (si, oi) (.head _) (e ▸ (hnx {} (.Name (Str.ofString "mod") default) rfl).at_ _ _ _ ok2 p hp)
      dsimp only [rdr, List.nil_append, List.cons_append] at N2
      walk_at "m run"
      · exact fin _ _ _ _ _ _ 1 _ hs1 (by
          have hw := ‹Txt.startswith md (ys[i] ++ Str.ofString ".") = true›
          unfold namesN modHit
          rw [if_pos]
          simp only [Bool.or_eq_true, List.any_eq_true]
          exact .inl (.inr ⟨_, (hys _).mp (List.getElem_mem hiy), hw⟩)) (by assumption) (news_left (a := rdr w.params x dx sm sd si om _ vd q t1 t2 t3) (b := own') (by assumption)) (by assumption) (by assumption)
      · refine ⟨_, _, _, _, own', rdr w.params x dx sm sd si om oi vd q t1 t2 t3, rfl, by assumption, by assumption, off2, ok2, rfl, ?_, ?_, ?_, ?_⟩
        · walk_at "m get"
        · walk_at "m get"
        · walk_at "m get"
        · intro y hy
          rw [List.take_add_one, List.getElem?_eq_getElem hiy] at hy
          rcases List.mem_append.mp hy with hy | hy
          · exact hno y hy
          · simp at hy; subst hy; assumption
    · rintro m₁ nw h2 tk2 dr2 ⟨rfl, hm1, hm2, hm3, hno⟩ F2 N2
      have hno' : modHit xs md = false := by
        unfold modHit
        rw [Bool.or_eq_false_iff]
        refine ⟨by first | assumption | exact decide_eq_false (by assumption) | simp_all, ?_⟩
        rw [List.any_eq_false]
        intro y hy
        have := hno y (by rw [List.take_of_length_le (by have := hstr.1; simp at this; omega)]; exact (hys y).mpr hy)
        rw [this]; exact Bool.false_ne_true
      rcases hfv with ⟨rfl, rfl⟩ | ⟨f, uf, rfl, rfl⟩
      · walk_at "m run"
        exact fin _ _ _ _ _ _ 1 _ hs1 (by unfold namesN dirHit; rw [if_pos (by simp)]) (by assumption) (by assumption) (by assumption) (by assumption)
      · walk_at "m run"
        refine wpAny_For ?_
        walk_at "m go"
        walk_at "m iter list"
        intro h5 I5 own5 F5 N5 off5 ok5
        refine for_walk (nextOk_list rfl) (fun i m₁ news₁ => news₁ = rdr w.params x dx sm sd si om oi vd q t1 t2 t3 ∧ m₁ (Str.ofString "self") = some (.ref x) ∧ m₁ (Str.ofString "filename") = some (.str f uf) ∧ m₁ (Str.ofString "modulename") = some (.str md u) ∧ ∀ y ∈ ds.take i, Txt.startswith f (y ++ Str.ofString "/") = false) F5 N5 off5 ok5 ⟨rfl, by walk_at "m get", by walk_at "m get", by walk_at "m get", fun y hy => by simp at hy⟩ ?_ ?_ (fun _ _ q => q)
        · rintro i v m₁ nw own' h2 tk2 dr2 ext hi ⟨hiv, rfl⟩ ⟨rfl, hm1, hm2, hm3, hno⟩ off2 hext F2 N2 ok2
          have hiy : i < ds.length := by have := hdirs.1; rw [List.size_toArray] at hi; omega
          obtain ⟨u9, hu9⟩ := hdirs.2 i hiy
          rw [List.getElem?_toArray, hu9] at hiv
          obtain rfl := Option.some.inj hiv
          clear hiv
          have hyl : ds[i].length < 1000 := hdl _ (List.getElem_mem _)
          have hoff : ∀ p ∈ own', p.1 ≠ si := fun p hp e => off2 (si, oi) (.head _) (e ▸ (nextOk_list (prog := PySem.Challenge.rw_nq0047_02.row.prog) (w := w) (A := {}) (h₀ := g') (L := L') (target := .Name (Str.ofString "d") default) rfl).at_ _ _ _ ok2 p hp)
          dsimp only [rdr, List.nil_append, List.cons_append] at N2
          walk_at "m run"
          · exact fin _ _ _ _ _ _ 1 _ hs1 (by
              have hw := ‹Txt.startswith f (ds[i] ++ Str.ofString "/") = true›
              unfold namesN dirHit
              rw [if_pos]
              simp only [Bool.or_eq_true, List.any_eq_true]
              exact .inr ⟨_, (List.getElem_mem hiy), hw⟩) (by assumption) (news_left (a := rdr w.params x dx sm sd si om _ vd q t1 t2 t3) (b := own') (by assumption)) (by assumption) (by assumption)
          · refine ⟨_, _, _, _, own', rdr w.params x dx sm sd si om oi vd q t1 t2 t3, rfl, by assumption, by assumption, off2, ok2, rfl, ?_, ?_, ?_, ?_⟩
            · walk_at "m get"
            · walk_at "m get"
            · walk_at "m get"
            · intro y hy
              rw [List.take_add_one, List.getElem?_eq_getElem hiy] at hy
              rcases List.mem_append.mp hy with hy | hy
              · exact hno y hy
              · simp at hy; subst hy; assumption
        · rintro m₁ nw h2 tk2 dr2 ⟨rfl, hm1, hm2, hm3, hno⟩ F2 N2
          have hno2 : dirHit ds (some f) = false := by
            unfold dirHit
            rw [List.any_eq_false]
            intro y hy
            have := hno y (by rw [List.take_of_length_le (by have := hdirs.1; simp; omega)]; exact hy)
            rw [this]; exact Bool.false_ne_true
          walk_at "m run"
          exact fin _ _ _ _ _ _ 0 _ hs1 (by unfold namesN; rw [hno', hno2]; rfl) (by assumption) (by assumption) (by assumption) (by assumption)
end Mine
end
section
open PySem PySem.W PyProof.Rows PySem.Calls
open PyProof.Rows.LCg (lst NsObj SrcAt)
open PySem.SeqAt
set_option Elab.async false
set_option maxRecDepth 100000
set_option maxHeartbeats 8000000
namespace Mine
theorem set_back_MEnt : True := by w_top off; trivial
theorem words_MEnt : True := by
  k_with_none
  k_with "m s0" => ((fail_if_success (with_reducible show WStep _ _ _ _ _ _)); (fail_if_success (with_reducible show wpAny _ _ (eval (Expr.ListComp _ _ _ _) _) _ _ _)); (fail_if_success (with_reducible show wpAny _ _ (exec (Stmt.For _ _ _ _ _) _) _ _ _)); (fail_if_success (with_reducible show wpAny _ _ (exec (Stmt.Assign _ (Expr.ListComp _ _ _ _) _ _) _) _ _ _)))
  k_with "m get" => ((repeat (first | assumption | exact get_eq | refine get_ne (by decide) ?_ | rfl)))
  k_with "eval Name" => (((with_reducible show wpAny _ _ (eval (Expr.Name _ _) (envOf _ _ _ _ _)) _ _ _); k_dflt (refine' ld ?z9k1 ?z9k2 ?_; (case z9k1 => k_asm); (case z9k2 => walk_at "m get"); k_whole)))
  k_with "m go" => ((repeat ((fail_if_success (with_reducible show WStep _ _ _ _ _ _)); first | walk1 | (dsimp only; walk1))))
  k_with "subscriptTail" => (((with_reducible show wpAny _ _ (subscriptTail _ _ (Value.ref _) (Value.int _ _)) _ _ _); (refine' item_h ?z9k1 ?z9k2 ?z9k3 ?z9k4 ?_; (case z9k1 => assumption); (case z9k2 => omega); (case z9k3 => omega); (case z9k4 => assumption); k_whole)))
  k_with "setItem ref int" => ((((with_reducible show wpAny _ _ (setItem (Value.ref _) (Value.int _ _) _) _ _ _); (refine' setItem_h ?z9k1 ?z9k2 ?z9k3 ?z9k4 ?z9k5 ?z9k6 ?_; (case z9k1 => assumption); (case z9k2 => assumption); (case z9k3 => assumption); (case z9k4 => omega); (case z9k5 => assumption); (case z9k6 => omega); k_whole); intro h' F' N'); revert h' F' N'; intro _ _ _))
  k_with "call builtin:len" => (((with_reducible show wpAny _ _ (call (Value.builtin _) [Value.ref _]) _ _ _); (refine' len_h ?z9k1 ?z9k2 ?_; (case z9k1 => assumption); (case z9k2 => first | assumption | (simp only [List.length_append, List.length_cons, List.length_nil]; omega)); k_whole)))
  k_with "call builtin:list.append" => ((((with_reducible show wpAny _ _ (call (Value.builtin _) [Value.ref _, _]) _ _ _); (refine' append_h ?z9k1 ?z9k2 ?z9k3 ?z9k4 ?_; (case z9k1 => assumption); (case z9k2 => assumption); (case z9k3 => assumption); (case z9k4 => omega); k_whole); intro h' F' N'); revert h' F' N'; intro _ _ _))
  k_with "call builtin:list.pop" => ((((with_reducible show wpAny _ _ (call (Value.builtin _) [Value.ref _]) _ _ _); (refine' pop_h ?z9k1 ?z9k2 ?z9k3 ?z9k4 ?_; (case z9k1 => assumption); (case z9k2 => assumption); (case z9k3 => assumption); (case z9k4 => omega); k_whole); intro h' F' N'); revert h' F' N'; intro _ _ _))
  k_with "eval Name" => (((with_reducible show wpAny _ _ (eval (Expr.Name _ _) (compEnvC _ _ _ _)) _ _ _); k_dflt (refine' PySem.W.LCgL.ld_own ?z9k1 ?z9k2 ?z9k3 ?z9k4 ?_; (case z9k1 => k_asm); (case z9k2 => exact List.Mem.head _); (case z9k3 => assumption); (case z9k4 => walk_at "m get"); k_whole)))
  k_with "m mem" => (first | assumption | exact List.Mem.head _ | exact List.mem_append.mpr (Or.inl (by assumption)) | exact List.mem_append.mpr (Or.inr (by assumption)) | (refine List.Mem.tail _ ?_; walk_at "m mem"))
  k_with "subscriptTail" => (((with_reducible show wpAny _ _ (subscriptTail _ _ (Value.ref _) (Value.int _ _)) _ _ _); (refine' item_m ?z9k1 ?z9k2 ?z9k3 ?z9k4 ?z9k5 ?_; (case z9k1 => assumption); (case z9k5 => assumption); (case z9k2 => walk_at "m mem"); (case z9k3 => omega); (case z9k4 => omega); k_whole)))
  k_with "truthy ref" => ((k_dflt (refine' truthy_D ?z9N ?z9d ?z9m ?z9s ?z9f ?_; (case z9N => assumption); (case z9d => assumption); (case z9m => walk_at "m mem"); (case z9s => assumption); (case z9f => first | assumption | decide | omega); k_whole)))
  k_with "m enter2" => ((   (case kA => exact rfl); (case kF => assumption); (case kK => assumption); (case k1 => assumption); (case k2 => assumption); (case k3 => assumption); (case k4 => assumption); (case k5 => assumption);   (case k6 => k_is); (case k7 => k_is); (case k8 => k_room); (case k9 => first | exact BindsTo.of_eq rfl | exact binds_K (by k_in) rfl (by k_is) rfl rfl rfl); (case c5 => decide); (case kB => exact locs rfl); (case c2 => exact rfl); (case c3 => exact rfl); (case c4 => exact rfl)))
  k_with "m iter tuple" => ((refine' iter_tupleN ?z9kF ?z9kN ?z9kS ?_; (case z9kF => assumption); (case z9kN => assumption); (case z9kS => walk_at "m mem")))
  k_with "truthy ref" => ((k_dflt (refine' truthy_L ?z9N ?z9m ?z9f ?_; (case z9N => assumption); (case z9m => walk_at "m mem"); (case z9f => first | assumption | omega); k_whole)))
  k_with "call type:set" => ((((with_reducible show wpAny _ _ (call (Value.type _) [Value.ref _]) _ _ _); k_dflt (refine' set_new_strsN ?z9F ?z9N ?z9m ?z9v ?z9n ?z9hh ?z9f ?_; (case z9F => assumption); (case z9N => assumption); (case z9m => walk_at "m mem"); (case z9v => assumption); (case z9n => assumption); (case z9hh => exact rfl); (case z9f => first | assumption | omega); k_whole); intro h' tk' D' o' F' N' hS' l1'; (try k_lt l1')); revert h' tk' D' o' F' N' hS' l1'; intro _ _ _ _ _ _ _ _))
  k_with "call type:set nil nil" => (((k_dflt (refine' set_new_0 ?z9F ?z9N ?_; (case z9F => assumption); (case z9N => assumption); k_whole); intro h' D' o' F' N' hS' l1'; (try k_lt l1')); revert h' D' o' F' N' hS' l1'; intro _ _ _ _ _ _ _))
  k_with "m run" => ((repeat' (walk_at "m s0"; first | walk1 | (dsimp only; walk1) | (with_reducible refine ite_neg Bool.false_ne_true ?_) | (with_reducible refine ite_pos rfl ?_))))
  k_with "getItem ref str" => (((k_dflt (refine' getItem_D ?z9N ?z9d ?z9f ?z9m ?z9s ?z9l ?_; (case z9N => assumption); (case z9d => assumption); (case z9f => assumption); (case z9m => walk_at "m mem"); (case z9s => assumption); (case z9l => assumption); k_whole); intro v' hv'); revert v' hv'; intro _ _))
  k_with "compareOp In str ref" => ((k_dflt (refine' in_set ?z9N ?z9m ?z9d ?_; (case z9N => assumption); (case z9d => assumption); (case z9m => walk_at "m mem"); k_whole)))
  k_with "setItem ref str" => (((k_dflt (refine' setItem_K PyProof.V.same_str (strKind_is _ _ _ _) ?z9v ?z9F ?z9N ?z9U ?z9d ?z9f ?_ ?z9z; (case z9F => assumption); (case z9N => assumption); (case z9U => k_updF); (case z9d => assumption); (case z9f => assumption); (case z9z => (rw [sizeLine_eq]; omega)); (case z9v => k_flat)); intro h' o' F' N' hd' hf'; (try dsimp only at N')); revert h' o' F' N' hd' hf'; intro _ _ _ _ _ _))
  k_with "binaryOp Add str str" => (((refine PyProof.Rows.add_str (hsz := ?z9hsz) ?_); (case z9hsz => (have e1 : (Str.ofString ".").length = 1 := by decide); (have e2 : (Str.ofString "/").length = 1 := by decide); (have e3 : (Str.ofString "/.").length = 2 := by decide); rw [sizeLine_eq]; omega); intro _ _))
  k_with "eval Name" => (((with_reducible show wpAny _ _ (eval (Expr.Name _ _) (compEnvC _ _ _ _)) _ _ _); k_dflt (refine' PySem.W.LCgL.ld_own ?z9k1 ?z9k2 ?z9k3 ?z9k4 ?_; (case z9k1 => k_asm); (case z9k2 => walk_at "m mem"); (case z9k3 => assumption); (case z9k4 => walk_at "m get"); k_whole)))
  k_with "eval Name" => (((with_reducible show wpAny _ _ (eval (Expr.Name _ _) (envOfC _ _ _ _ _)) _ _ _); k_dflt (refine' nameX_L ?z9F ?z9v ?_ ?z9a ?z9b; (case z9F => k_asm); (case z9a => rfl); (case z9b => rfl); (case z9v => walk_at "m get"); k_whole)))
  k_with "callWith" => (first | with_reducible refine PyProof.Rows.callWith_method0 ?_ | with_reducible refine PyProof.Rows.callWith_builtin1 ?_ | with_reducible refine PyProof.Rows.callWith_method1 ?_)
  trivial
noncomputable def ent (k : Int) : Str := if k = 0 then Str.ofString "a" else if k = 1 then Str.ofString "a.b" else if k = 2 then Str.ofString "/l" else Str.ofString "/l/a"
abbrev tupOf (vs : List Value) : Obj := { cls := .type "tuple", data := .seq vs.toArray }
theorem news_tail {h₀ h : Heap} {L : Addr} {a : Addr × Obj} {b : Led} (N : News h₀ L h (a :: b)) : News h₀ L h b := fun p hp => N p (.tail _ hp)
theorem entries_K {c : Addr} {cv : List Value} {w : World} {A A₀ : Around} {s : Shared} {h₀ base : Heap} {outer : List Env} {L : Addr} {m mg mb : Str → Option Value} {mean : ExcName → Option Value} {p : Program} {loose : List Str} {env : Env} {R : Result → Shared → Prop}
 (B : Below A₀ base outer h₀) (F : Fr h₀ L s.heap m) (X₀ : (Mine.hd.heap_1 w.params).In h₀) (N : News h₀ L s.heap ([(c, tupOf cv)])) (T : Top p loose mean mg mb h₀) (hA : A.frames = some (env :: outer)) (hf : env.frame = some L) (hke : env.scope.kind = .function) {ch : List Int} (hc : IntsAre cv ch) (hk : ∀ k ∈ ch, 0 ≤ k ∧ k < 4) (hl : ch.length < 1000)
 (hd : A.depth < 800) (hh : A.handled = none)
 (h : ∀ h' tk dr D ys, Fr h₀ L h' m → News h₀ L h' [(D, lst ys), (c, tupOf cv)] → StrList ys (ch.map ent) → Kept s.heap h' [c] → Apart s.heap [c] [(D, lst ys), (c, tupOf cv)] → @Ne Nat c D → R (.ok (.ret (.ref D))) { s with heap := h', toks := tk, drawn := dr }) :
 codeAny (model PySem.Challenge.rw_nq0047_02.row.prog w) A (.call (.ref 123) ⟨[.ref c], []⟩) R s := by
  obtain ⟨hdl', dep', frs', gs', un'⟩ := A
  replace hA : frs' = some (env :: outer) := hA
  replace hh : hdl' = none := hh
  subst hA hh
  replace hd : dep' < _ := hd
  revert X₀
  k_fill
  intro X₀
  refine' code_defK (binds := [(Str.ofString "chosen", .ref c)]) ?k1 ?k2 ?k3 ?k4 ?k5 ?kA ?kF ?kK ?k6 ?k7 ?k8 ?k9 ?kB ?_ ?c2 ?c3 ?c4 ?c5
  walk_at "m enter2"
  intro g' L' h' FG' F' N' B' X' T' hK lK
  clear F N B X₀ T
  refine wpAny_noRaise ?_
  k_fold
  walk_at "m run"
  refine comp_eval (h₀ := g') (L := L') rfl ?_ rfl ?_ ?_
  · decide
  · decide
  walk_at "m go"
  walk_at "m iter tuple"
  intro h1 I own F1 N1 off1 ok1
  refine csrc1 (nextOk_tuple rfl) self_tuple F1 N1 off1 ok1 (fun i ys => StrList ys ((ch.map ent).take i)) ?_ ?_ StrList.nil (fun _ _ _ h => h.2) rfl rfl ?_ ?_
  · rw [List.size_toArray, hc.length]; omega
  · intro i ys hi; rw [hi.1, List.length_take]; exact Nat.min_le_left _ _
  · intro i v ys own C oC D mC h tk dr hi hP hJ offc hCD hoC F2 N2
    have hich : i < ch.length := by have := hc.length; rw [List.size_toArray] at hi; omega
    obtain ⟨u, rfl⟩ := IntsAre.int_at hc i v (by have := hP.1; rwa [List.getElem?_toArray] at this)
    have hki := hk ch[i] (List.getElem_mem hich)
    have e : ch.getD i 0 = ch[i] := by simp [hich]
    rw [e] at hoC
    refine wpAny_pure ?_
    with_reducible refine ite_pos rfl ?_
    obtain h0 | h0 | h0 | h0 : ch[i] = 0 ∨ ch[i] = 1 ∨ ch[i] = 2 ∨ ch[i] = 3 := by omega
    all_goals rw [h0] at hoC
    all_goals walk_at "m run"
    all_goals
      refine ⟨_, _, _, oC, _, rfl, by assumption, hoC, news_tail (by assumption), ?_⟩
      have hz := fun u => hJ.step (by simpa using hich) u
      rw [List.getElem_map, h0] at hz
      exact hz _
  · intro D h9 tk dr ys F2 N2 off2 hJ
    have hJ' : StrList ys (ch.map ent) := by
      rw [List.size_toArray, hc.length, List.take_of_length_le (by simp)] at hJ; exact hJ
    walk_at "m run"
    exact leaveKept hK (by assumption) (by assumption) fun kF kN kK kA => h _ _ _ _ _ kF kN hJ' kK kA (off2 _ (.head _))
end Mine
end
section
open PySem PySem.W PyProof.Rows PySem.Calls PyProof.Rows.LCg
set_option Elab.async false
set_option maxRecDepth 100000
set_option maxHeartbeats 1000000
namespace Mine
theorem set_back_MComp2 : True := by w_top off; trivial
theorem Kept.whole {h₀ h h' : Heap} {L : Addr} {l : Led} (k : Kept h h' (l.map (·.1))) (N : News h₀ L h l) (N' : News h₀ L h' l) : Kept h h' [] := fun b o e _ => by
  by_cases hb : b ∈ l.map (·.1)
  · obtain ⟨q, hq, rfl⟩ := List.mem_map.mp hb
    rw [(N q hq).1] at e
    rw [(N' q hq).1]; exact e
  · exact k b o e hb
theorem Apart.whole {h : Heap} {l new : Led} (a : Apart h (l.map (·.1)) new) (hne : ∀ p ∈ l, ∀ q ∈ new, p.1 ≠ q.1) : Apart h [] new := fun b o e _ q hq eq => by
  by_cases hb : b ∈ l.map (·.1)
  · obtain ⟨p, hp, rfl⟩ := List.mem_map.mp hb
    exact hne p hp q hq eq
  · exact a b o e hb q hq eq
theorem Apart.sub {h : Heap} {l : List Addr} {new new' : Led} (a : Apart h l new) (hs : ∀ p ∈ new', p ∈ new) : Apart h l new' := fun b o e hb q hq => a b o e hb q (hs q hq)
theorem Apart.led {h₀ h : Heap} {L : Addr} {news new : Led} (a : Apart h [] new) (N : News h₀ L h news) : ∀ p ∈ news, ∀ q ∈ new, p.1 ≠ q.1 := fun p hp => a _ _ (N p hp).1 (by simp)
theorem news_cons {h₀ h : Heap} {L : Addr} {p : Addr × Obj} {l : Led} (N : News h₀ L h [p]) (N' : News h₀ L h l) : News h₀ L h (p :: l) := fun q hq => (List.mem_cons.mp hq).elim (fun e => e ▸ N p (.head _)) fun h => N' q h
theorem news_app {h₀ h : Heap} {L : Addr} {a l : Led} (N : News h₀ L h a) (N' : News h₀ L h l) : News h₀ L h (a ++ l) := fun q hq => (List.mem_append.mp hq).elim (fun h => N q h) fun h => N' q h
section
variable {prog : Program} {w : World} {A : Around} {E : Value → Shared → Prop} {s : Shared} {env : Env} {h₀ : Heap} {L C I : Addr} {m mC : Str → Option Value} {news own : Led} {oC : Obj} {scope : Scope} {cl : List (Str × Addr)} {elt : PySem.Expr} {ifs : List PySem.Expr} {ads : List Addr} {n : Nat} {P : Nat → Value → Led → Prop} {Ok : Nat → Led → Led → Prop}
  {Q : Value → Shared → Prop} {x y : Str} {px py pos : Pos} {x1 : Nat}
theorem csrcG {Fin : (Str → Option Value) → Shared → Addr → Addr → Obj → Heap → Nat → Drawn → List Value → Led → Prop} (X : NextOk prog w A h₀ L (.Name x px) I ads n P Ok) (hself : ∀ (s : Shared) own news, Ok 0 own news → News h₀ L s.heap (own ++ news) → ∀ Q : Value → Shared → Prop, Q (.ref I) s → wpAny (model prog w) A (pyIter (.ref I)) Q NoE s)
    (F : Fr h₀ L s.heap m) (N : News h₀ L s.heap (own ++ news)) (off : Off ads news) (hok : Ok 0 own news) (J : Nat → List Value → Prop) (hn : n ≤ 1000000) (hlen : ∀ i ys, J i ys → ys.length ≤ i) (h0 : J 0 [])
    (hP : ∀ i v ext, P i v ext → ext = []) (hx : scope.names.lookup x = some .local) (hkind : scope.kind = .function)
    (turn : ∀ i v ys own C oC D (mC : Str → Option Value) h tk dr, i < n → P i v [] → J i ys → Off (C :: D :: ads) news → (@Ne Nat C D) → NsObj oC (fun z => if z = x then some v else mC z) → Fr h₀ L h m → News h₀ L h ((C, oC) :: (D, lst ys) :: (news ++ own)) →
      wpAny (model prog w) A (forIn ifs true fun c r => if r = true then do let ok ← isTrue c (compEnvC scope cl C env) (eval c (compEnvC scope cl C env)); pure (ForInStep.yield ok) else pure (ForInStep.yield r)) (fun ok s' =>
          if ok = true then wpAny (model prog w) A (eval elt (compEnvC scope cl C env)) (fun y s' => CFin h₀ L m C D news own (J (i + 1)) s ys (ys ++ [y]) s') NoE s' else CFin h₀ L m C D news own (J (i + 1)) s ys ys s') NoE { s with heap := h, toks := tk, drawn := dr })
    (fin : ∀ D C oC mC h tk dr ys, Fr h₀ L h m → NsObj oC mC → News h₀ L h ((C, oC) :: (D, lst ys) :: news) → C ≠ D → (∀ p ∈ news, p.1 ≠ C ∧ p.1 ≠ D) → J n ys → Fin m s D C oC h tk dr ys news) :
    CSrc prog w A h₀ L env (.Name x px) elt ifs scope cl Fin (.ref I) s := by
  refine ⟨I, ads, own, news, m, n, P, Ok, fun i ys nw => nw = news ∧ J i ys, rfl, X, hself, hn, fun i ys nw h => hlen i ys h.2, F, N, off, hok, ⟨rfl, h0⟩, ?_, ?_⟩
  · rintro i v ys nw own C oC D mC h tk dr ext hi hPv ⟨rfl, hJ⟩ offc hext hCD hoC F2 N2 ok2
    obtain rfl := hP _ _ _ hPv
    rw [List.nil_append] at N2
    have offC : ∀ p ∈ (D, lst ys) :: (nw ++ own), p.1 ≠ C := by
      intro p hp
      rcases List.mem_cons.mp hp with rfl | hp
      · exact Ne.symm hCD.1
      · rcases List.mem_append.mp hp with hp | hp
        · exact fun e => offc p hp (e ▸ .head _)
        · exact fun e => hCD.2.1 (e ▸ X.at_ _ _ _ ok2 p hp)
    refine wpAny_assign_Name ?_
    refine store_comp F2 N2 hoC offC ?_ hx hkind
    intro h4 oC4 hoC4 F4 N4
    refine wpAny_mono (turn i v ys own C oC4 D mC h4 (tk + 1) dr hi hPv hJ offc hCD.1 hoC4 F4 N4) (fun ok s' hs' => ?_) fun _ _ e => e
    have fin1 : ∀ zs s', CFin h₀ L m C D nw own (J (i + 1)) s ys zs s' → CEnd h₀ L m ads C D Ok (fun i ys nw' => nw' = nw ∧ J i ys) s i ys zs s' := by
      rintro zs s' ⟨h', tk', dr', oC', mC', rfl, F', hoC', N', hJ'⟩
      exact ⟨h', tk', dr', own, oC', mC', nw, rfl, F', hoC', N', offc, ok2, rfl, hJ'⟩
    cases ok with
    | true =>
      rw [if_pos rfl] at hs' ⊢
      exact wpAny_mono hs' (fun y s' h' => fin1 _ _ h') fun _ _ e => e
    | false =>
      rw [if_neg Bool.false_ne_true] at hs' ⊢
      exact fin1 _ _ hs'
  · rintro D C oC mC h2 tk2 dr2 ys nw F2 hoC N2 hCD off2 ⟨rfl, hJ⟩
    exact fin D C oC mC h2 tk2 dr2 ys F2 hoC N2 hCD off2 hJ

theorem csrcP {Fin : (Str → Option Value) → Shared → Addr → Addr → Obj → Heap → Nat → Drawn → List Value → Led → Prop}
    (X : NextOk prog w A h₀ L (.Tuple [.Name x px, .Name y py] x1 pos) I ads n P Ok) (hself : ∀ (s : Shared) own news, Ok 0 own news → News h₀ L s.heap (own ++ news) → ∀ Q : Value → Shared → Prop, Q (.ref I) s → wpAny (model prog w) A (pyIter (.ref I)) Q NoE s) (hh : A.handled = none)
    (F : Fr h₀ L s.heap m) (N : News h₀ L s.heap (own ++ news)) (off : Off ads news) (hok : Ok 0 own news) (J : Nat → List Value → Led → Prop) (hn : n ≤ 1000000) (hlen : ∀ i ys nw, J i ys nw → ys.length ≤ i) (h0 : J 0 [] news)
    (V : Nat → Value → Value → Prop) (hP : ∀ i v ext ys nw, P i v ext → J i ys nw → ext = [] ∧ ∃ T v1 v2, v = .ref T ∧ TSrcAt h₀ T #[v1, v2] nw ∧ V i v1 v2) (hx : scope.names.lookup x = some .local) (hy : scope.names.lookup y = some .local) (hkind : scope.kind = .function)
    (turn : ∀ i v1 v2 ys nw own C oC D (mC : Str → Option Value) h tk dr, i < n → V i v1 v2 → J i ys nw → Off (C :: D :: ads) nw → (∀ p ∈ own, p.1 ∈ ads) → (@Ne Nat C D ∧ C ∉ ads ∧ D ∉ ads) → NsObj oC (fun z => if z = y then some v2 else if z = x then some v1 else mC z) → Fr h₀ L h m → News h₀ L h ((C, oC) :: (D, lst ys) :: (nw ++ own)) → Ok (i + 1) own nw →
      wpAny (model prog w) A (forIn ifs true fun c r => if r = true then do let ok ← isTrue c (compEnvC scope cl C env) (eval c (compEnvC scope cl C env)); pure (ForInStep.yield ok) else pure (ForInStep.yield r)) (fun ok s' =>
          if ok = true then wpAny (model prog w) A (eval elt (compEnvC scope cl C env)) (fun y s' => CEnd h₀ L m ads C D Ok J s i ys (ys ++ [y]) s') NoE s' else CEnd h₀ L m ads C D Ok J s i ys ys s') NoE { s with heap := h, toks := tk, drawn := dr })
    (fin : ∀ D C oC mC h tk dr ys nw, Fr h₀ L h m → NsObj oC mC → News h₀ L h ((C, oC) :: (D, lst ys) :: nw) → C ≠ D → (∀ p ∈ nw, p.1 ≠ C ∧ p.1 ≠ D) → J n ys nw → Fin m s D C oC h tk dr ys nw) :
    CSrc prog w A h₀ L env (.Tuple [.Name x px, .Name y py] x1 pos) elt ifs scope cl Fin (.ref I) s := by
  refine ⟨I, ads, own, news, m, n, P, Ok, J, rfl, X, hself, hn, hlen, F, N, off, hok, h0, ?_, fin⟩
  intro i v ys nw own C oC D mC h tk dr ext hi hPv hJ offc hext hCD hoC F2 N2 ok2
  obtain ⟨rfl, T, v1, v2, rfl, hT, hV⟩ := hP _ _ _ _ _ hPv hJ
  rw [List.nil_append] at N2
  have offC : ∀ p ∈ (D, lst ys) :: (nw ++ own), p.1 ≠ C := by
    intro p hp
    rcases List.mem_cons.mp hp with rfl | hp
    · exact Ne.symm hCD.1
    · rcases List.mem_append.mp hp with hp | hp
      · exact fun e => offc p hp (e ▸ .head _)
      · exact fun e => hCD.2.1 (e ▸ X.at_ _ _ _ ok2 p hp)
  have hT' : TSrcAt h₀ T #[v1, v2] ((C, oC) :: (D, lst ys) :: (nw ++ own)) := hT.imp id fun ⟨o, hm, r⟩ => ⟨o, .tail _ (.tail _ (List.mem_append.mpr (.inl hm))), r⟩
  refine assign_pair hh F2 N2 hT' fun h3 F3 N3 => ?_
  refine store_comp F3 N3 hoC offC ?_ hx hkind
  intro h4 oC4 hoC4 F4 N4
  refine store_comp F4 N4 hoC4 offC ?_ hy hkind
  intro h5 oC5 hoC5 F5 N5
  exact turn i v1 v2 ys nw own C oC5 D mC h5 (tk + 1 + 1) dr hi hV hJ offc (X.at_ _ _ _ ok2) hCD hoC5 F5 N5 ok2
end
end Mine
end
section
open PySem PySem.W PyProof.Rows PySem.Calls
set_option Elab.async false
set_option maxRecDepth 100000
set_option maxHeartbeats 1000000
namespace Mine
theorem set_back_MPure2 : True := by w_top off; trivial
noncomputable def dat (Di : List (Str × Int)) : List (PyData × PyData) := Di.map fun p => (PyData.str p.1, PyData.int p.2)
noncomputable def nV (xs ds : List Str) (Di : List (Str × Int)) (fn : Option Str) (md : Str) : Int := (Di.lookup md).getD (namesN xs ds fn md)
noncomputable def nD (xs ds : List Str) (Di : List (Str × Int)) (fn : Option Str) (md : Str) : List (Str × Int) := if (Di.lookup md).isSome then Di else Di ++ [(md, namesN xs ds fn md)]
theorem lookup_dat (md : Str) : ∀ Di : List (Str × Int), Spec.lookup (PyData.str md) (dat Di) = (Di.lookup md).map PyData.int
  | [] => rfl
  | (k, n) :: r => by
    have ih := lookup_dat md r
    by_cases e : k = md
    · subst e; simp [dat, Spec.lookup, PyProof.V.same_str]
    · have e' : (md == k) = false := by simpa using fun h : md = k => e h.symm
      have e2 : Spec.same (PyData.str k) (PyData.str md) = false := by rw [PyProof.V.same_str]; exact decide_eq_false e
      rw [List.lookup_cons, e', ← ih]
      simp [dat, Spec.lookup, e2]
theorem namesV_dat (xs ds : List Str) (Di : List (Str × Int)) (fn : Option Str) (md : Str) : namesV xs ds (dat Di) fn md = .int (nV xs ds Di fn md) := by
  unfold namesV nV; rw [lookup_dat]; cases Di.lookup md <;> rfl
theorem namesD_dat (xs ds : List Str) (Di : List (Str × Int)) (fn : Option Str) (md : Str) : namesD xs ds (dat Di) fn md = dat (nD xs ds Di fn md) := by
  unfold namesD nD; rw [lookup_dat, Option.isSome_map]
  by_cases h : (Di.lookup md).isSome = true
  · rw [if_pos h, if_pos h]
  · rw [if_neg h, if_neg h]
    unfold PyProof.V.putD
    rw [if_neg]
    · simp [dat]
    · intro ha
      apply h
      rw [List.any_eq_true] at ha
      obtain ⟨p, hp, hs⟩ := ha
      obtain ⟨q, hq, rfl⟩ := List.mem_map.mp hp
      rw [PyProof.V.same_str, decide_eq_true_eq] at hs
      subst hs
      rw [List.lookup_isSome_iff]
      exact ⟨q, hq, by simp⟩
theorem nD_length (xs ds : List Str) (Di : List (Str × Int)) (fn : Option Str) (md : Str) : (nD xs ds Di fn md).length ≤ Di.length + 1 := by
  unfold nD; split <;> simp
/-- what the calls answer, one after another -/
noncomputable def runS (xs ds : List Str) : List Int × List (Str × Int) → List (Option Str × Str) → List Int × List (Str × Int) := List.foldl fun st c => (st.1 ++ [nV xs ds st.2 c.1 c.2], nD xs ds st.2 c.1 c.2)
theorem runS_step (xs ds : List Str) (st : List Int × List (Str × Int)) (calls : List (Option Str × Str)) (i : Nat) (h : i < calls.length) :
    runS xs ds st (calls.take (i + 1)) = ((runS xs ds st (calls.take i)).1 ++ [nV xs ds (runS xs ds st (calls.take i)).2 calls[i].1 calls[i].2], nD xs ds (runS xs ds st (calls.take i)).2 calls[i].1 calls[i].2) := by
  have e : calls.take (i + 1) = calls.take i ++ [calls[i]] := by simp
  rw [e]; unfold runS; rw [List.foldl_append]; rfl
theorem runS_length (xs ds : List Str) : ∀ (calls : List (Option Str × Str)) (st : List Int × List (Str × Int)), (runS xs ds st calls).1.length = st.1.length + calls.length ∧ (runS xs ds st calls).2.length ≤ st.2.length + calls.length
  | [], st => ⟨rfl, Nat.le_refl _⟩
  | c :: r, st => by
    have ih := runS_length xs ds r (st.1 ++ [nV xs ds st.2 c.1 c.2], nD xs ds st.2 c.1 c.2)
    have := nD_length xs ds st.2 c.1 c.2
    simp only [List.length_append, List.length_cons, List.length_nil] at ih ⊢
    unfold runS at ih ⊢
    rw [List.foldl_cons]
    exact ⟨by rw [ih.1]; omega, Nat.le_trans ih.2 (by omega)⟩
end Mine
end
section
open PySem PySem.W PyProof.Rows PySem.Calls PySem.SeqAt
set_option Elab.async false
set_option maxRecDepth 100000
set_option maxHeartbeats 1000000
namespace Mine
theorem set_back_MEq : True := by w_top off; trivial
/-- lexicographic order of lists of ints -/
noncomputable def ltL : List Int → List Int → Bool
  | [], [] => false
  | [], _ :: _ => true
  | _ :: _, [] => false
  | a :: r, b :: t => if a == b then ltL r t else decide (a < b)
abbrev Key := Int × List Int
noncomputable def ltK (k l : Key) : Bool := if k.1 == l.1 then (if k.2 == l.2 then false else ltL k.2 l.2) else decide (k.1 < l.1)
/-- the first place where the two differ decides -/
noncomputable def lexB (e l : Nat → Bool) (fin : Bool) : List Nat → Bool
  | [] => fin
  | i :: r => if e i then lexB e l fin r else l i
theorem lexB_congr {e l e' l' : Nat → Bool} {fin : Bool} : ∀ {r : List Nat}, (∀ i ∈ r, e i = e' i ∧ l i = l' i) → lexB e l fin r = lexB e' l' fin r
  | [], _ => rfl
  | i :: r, h => by
    unfold lexB
    rw [(h i (.head _)).1, (h i (.head _)).2, lexB_congr fun j hj => h j (.tail _ hj)]
theorem lexB_map {e l : Nat → Bool} {fin : Bool} (f : Nat → Nat) : ∀ r : List Nat, lexB e l fin (r.map f) = lexB (fun i => e (f i)) (fun i => l (f i)) fin r
  | [] => rfl
  | i :: r => by simp only [List.map_cons, lexB, lexB_map f r]
theorem ltL_lex : ∀ (a b : List Int), ltL a b = lexB (fun i => a.getD i 0 == b.getD i 0) (fun i => decide (a.getD i 0 < b.getD i 0)) (decide (a.length < b.length)) (List.range (min a.length b.length))
  | [], [] => rfl
  | [], _ :: _ => rfl
  | _ :: _, [] => rfl
  | x :: r, y :: t => by
    have e : min (x :: r).length (y :: t).length = min r.length t.length + 1 := by simp
    have e2 : decide ((x :: r).length < (y :: t).length) = decide (r.length < t.length) := by simp
    rw [e, e2, List.range_succ_eq_map, lexB, lexB_map]
    simp only [ltL, List.getD_cons_zero, List.getD_cons_succ]
    rw [ltL_lex r t]
theorem ints_all {a b : List Int} (h : a.length = b.length) : ((List.range a.length).all fun i => a.getD i 0 == b.getD i 0) = (a == b) := by
  rw [Bool.eq_iff_iff]
  simp only [List.all_eq_true, List.mem_range, beq_iff_eq]
  constructor
  · intro hh
    apply List.ext_getElem h
    intro i h1 h2
    have := hh i h1
    simpa [h1, h2] using this
  · rintro rfl i _; rfl
noncomputable def LtAt (A : Around) (s : Shared) (y x : Value) (b : Bool) : Prop :=
  ∀ (prog : Program) (w : World) (E : Value → Shared → Prop) (Q : Value → Shared → Prop), Q (.bool b) s → wpAny (model prog w) A (richCompare .Lt y x) Q E s
theorem tuple_ltAt (l b : Addr) (items items2 : Array Value) (n n2 : Nat) (dd dd2 : Option Addr) (sl sl2 : Array (Option Value)) (e k : Nat → Bool) :
    Meets (Builtin.«tuple.__lt__» ⟨[.ref l, .ref b], []⟩)
      (fun A R s => s.heap.get? l = some { cls := .type "tuple", dict := dd, data := .seq items n, slots := sl } ∧ s.heap.get? b = some { cls := .type "tuple", dict := dd2, data := .seq items2 n2, slots := sl2 } ∧
        (∀ j (h1 : j < items.size) (h2 : j < items2.size), EqAt A.in1 s items[j] items2[j] (e j)) ∧ (∀ j (h1 : j < items.size) (h2 : j < items2.size), e j = false → LtAt A.in1 s items[j] items2[j] (k j)) ∧
        R (.ok (.ret (.bool (lexB e k (decide (items.size < items2.size)) (List.range (min items.size items2.size)))))) s) :=
  .of_wp fun prog w A R s h => by
    obtain ⟨hp, g, d, tk, os⟩ := s; obtain ⟨hl, hb, he, hk, h⟩ := h
    have f2 := AutoSeq1.sub_tuple_tuple
    have hZ : (items.toList.zip items2.toList).length = min items.size items2.size := by simp
    wp_walk using AutoSeq1.wpAny_loadPart' hl, AutoSeq1.wpAny_loadPart' hb, wpAny_forIn_list _ (fun rest b s' => b.1 = none ∧ s' = ⟨hp, g, d, tk, os⟩ ∧ ∃ i, rest = (items.toList.zip items2.toList).drop i ∧
      R (.ok (.ret (.bool (lexB e k (decide (items.size < items2.size)) ((List.range (min items.size items2.size)).drop i))))) ⟨hp, g, d, tk, os⟩) _
    case turn =>
      rintro ⟨y, x⟩ rest b s' ⟨hb', rfl, i, hz, hR⟩
      have hlt : i < (items.toList.zip items2.toList).length := by
        rcases Nat.lt_or_ge i (items.toList.zip items2.toList).length with h' | h'
        · exact h'
        · rw [List.drop_of_length_le h'] at hz; cases hz
      have hm : i < min items.size items2.size := hZ ▸ hlt
      have h1 : i < items.size := Nat.lt_of_lt_of_le hm (Nat.min_le_left _ _)
      have h2 : i < items2.size := Nat.lt_of_lt_of_le hm (Nat.min_le_right _ _)
      rw [List.drop_eq_getElem_cons hlt] at hz
      injection hz with hyx hrest
      have hy : y = items[i] := by have := congrArg Prod.fst hyx; simpa using this
      have hx : x = items2[i] := by have := congrArg Prod.snd hyx; simpa using this
      subst hy hx
      have hd : (List.range (min items.size items2.size)).drop i = i :: (List.range (min items.size items2.size)).drop (i + 1) := by simp [List.drop_eq_getElem_cons, hm]
      rw [hd, lexB] at hR
      refine wpAny_bind (he i h1 h2 prog w _ _ ?_)
      cases hy : e i with
      | true =>
        rw [hy] at hR
        wp_walk
        exact ⟨rfl, rfl, i + 1, hrest, by simpa using hR⟩
      | false =>
        rw [hy] at hR
        have hk' := hk i h1 h2 hy prog w
        generalize richCompare CmpOp.Lt items[i] items2[i] = rc at hk' ⊢
        wp_walk
        refine hk' _ _ ?_
        wp_walk
        exact ⟨_, rfl, by simpa using hR⟩
    case fin =>
      rintro ⟨b1, b2⟩ s' ⟨hb', rfl, i, hz, hR⟩
      simp only at hb'
      subst hb'
      have hge : min items.size items2.size ≤ i := by
        rcases Nat.lt_or_ge i (items.toList.zip items2.toList).length with h' | h'
        · rw [List.drop_eq_getElem_cons h'] at hz; cases hz
        · exact hZ ▸ h'
      rw [List.drop_of_length_le (by simpa using hge)] at hR
      wp_walk
      exact ⟨_, rfl, by simpa [Builtin.Tuple.tupleCompareSizes, lexB] using hR⟩
    case h =>
      exact ⟨rfl, rfl, 0, rfl, by simpa using h⟩
end Mine
end
section
open PySem PySem.W PyProof.Rows PySem.Calls PySem.SeqAt
set_option Elab.async false
set_option maxRecDepth 100000
set_option maxHeartbeats 1000000
namespace Mine
theorem set_back_MEq2 : True := by w_top off; trivial
noncomputable def TupAt (h : Heap) (c : Addr) (ch : List Int) : Prop := ∃ cv : List Value, h.IsTuple c cv.toArray ∧ IntsAre cv ch
noncomputable def LstAt (h : Heap) (c : Addr) (ch : List Int) : Prop := ∃ cv : List Value, h.IsList c cv.toArray ∧ IntsAre cv ch
noncomputable def KeyAt (h : Heap) (v : Value) (k : Key) : Prop := ∃ a c u, v = .ref a ∧ h.IsTuple a #[.int k.1 u, .ref c] ∧ TupAt h c k.2
theorem tup_one {h : Heap} {a : Addr} {x y : Array Value} (h1 : h.IsTuple a x) (h2 : h.IsTuple a y) : x = y := by
  obtain ⟨o, ho, _, n, hd⟩ := h1
  obtain ⟨o', ho', _, n', hd'⟩ := h2
  rw [ho] at ho'; cases ho'
  rw [hd] at hd'; cases hd'; rfl
theorem lst_one {h : Heap} {a : Addr} {x y : Array Value} (h1 : h.IsList a x) (h2 : h.IsList a y) : x = y := by
  obtain ⟨o, ho, _, n, hd⟩ := h1
  obtain ⟨o', ho', _, n', hd'⟩ := h2
  rw [ho] at ho'; cases ho'
  rw [hd] at hd'; cases hd'; rfl
theorem ints_one {vs : List Value} {a b : List Int} (h1 : IntsAre vs a) (h2 : IntsAre vs b) : a = b := by rw [← h1.nums, ← h2.nums]
theorem TupAt.one {h : Heap} {c : Addr} {a b : List Int} (h1 : TupAt h c a) (h2 : TupAt h c b) : a = b := by
  obtain ⟨cv, t1, i1⟩ := h1
  obtain ⟨cv', t2, i2⟩ := h2
  have := List.toArray_inj (tup_one t1 t2)
  subst this
  exact ints_one i1 i2
theorem LstAt.one {h : Heap} {c : Addr} {a b : List Int} (h1 : LstAt h c a) (h2 : LstAt h c b) : a = b := by
  obtain ⟨cv, t1, i1⟩ := h1
  obtain ⟨cv', t2, i2⟩ := h2
  have := List.toArray_inj (lst_one t1 t2)
  subst this
  exact ints_one i1 i2
theorem KeyAt.one {h : Heap} {v : Value} {k l : Key} (h1 : KeyAt h v k) (h2 : KeyAt h v l) : k = l := by
  obtain ⟨a, c, u, rfl, t1, i1⟩ := h1
  obtain ⟨a', c', u', e, t2, i2⟩ := h2
  cases e
  have := tup_one t1 t2
  simp only [Array.mk.injEq, List.cons.injEq, Value.int.injEq, Value.ref.injEq, and_true] at this
  obtain ⟨⟨e1, _⟩, e2⟩ := this
  subst e2
  exact Prod.ext e1 (i1.one i2)
section
variable {A : Around} {s : Shared}
theorem int_get {cv : List Value} {a : List Int} (h : IntsAre cv a) {j : Nat} (hj : j < cv.toArray.size) : ∃ t, cv.toArray[j] = .int (a.getD j 0) t :=
  h.int_at j _ (by rw [List.getElem_toArray, List.getElem?_eq_getElem])
theorem all_tups {a b : List Int} {n m : Nat} (hn : n = a.length) (hm : m = b.length) : ((List.range (min n m)).all (fun i => a.getD i 0 == b.getD i 0) && n == m) = (a == b) := by
  subst hn hm
  by_cases h : a.length = b.length
  · rw [← h, Nat.min_self, ints_all h]; simp
  · have h1 : (a.length == b.length) = false := by simpa using h
    have h2 : (a == b) = false := by simpa using fun e : a = b => h (congrArg _ e)
    rw [h1, h2, Bool.and_false]
theorem rc_tups {l b : Addr} {x y : List Int} (h1 : TupAt s.heap l x) (h2 : TupAt s.heap b y) (hu : A.units < cLine) : RcAt A s (.ref l) (.ref b) (x == y) := by
  obtain ⟨cv, t1, i1⟩ := h1
  obtain ⟨cv', t2, i2⟩ := h2
  have r := RcAt.tuples (A := A) (e := fun i => x.getD i 0 == y.getD i 0) t1 t2 hu (fun j j1 j2 => by
    obtain ⟨t, e1⟩ := int_get i1 j1
    obtain ⟨u, e2⟩ := int_get i2 j2
    rw [e1, e2]; exact EqAt.int_int _ _ _ _)
  rw [all_tups (by rw [List.size_toArray, i1.length]) (by rw [List.size_toArray, i2.length])] at r
  exact r
theorem eq_tups {l b : Addr} {x y : List Int} (h1 : TupAt s.heap l x) (h2 : TupAt s.heap b y) (hu : A.units < cLine) : EqAt A s (.ref l) (.ref b) (x == y) := by
  by_cases e : l = b
  · subst e
    rw [h1.one h2, beq_self_eq_true]; exact EqAt.same _
  · exact EqAt.of_refs e (rc_tups h1 h2 hu)
theorem rc_lsts {l b : Addr} {x y : List Int} (h1 : LstAt s.heap l x) (h2 : LstAt s.heap b y) (hu : A.units < cLine) : RcAt A s (.ref l) (.ref b) (x == y) := by
  obtain ⟨cv, t1, i1⟩ := h1
  obtain ⟨cv', t2, i2⟩ := h2
  by_cases h : x.length = y.length
  · have r := RcAt.lists (A := A) (e := fun i => x.getD i 0 == y.getD i 0) t1 t2 (by rw [List.size_toArray, List.size_toArray, i1.length, i2.length, h]) hu (fun j j1 j2 => by
      obtain ⟨t, e1⟩ := int_get i1 j1
      obtain ⟨u, e2⟩ := int_get i2 j2
      rw [e1, e2]; exact EqAt.int_int _ _ _ _)
    rw [List.size_toArray, i1.length, ints_all h] at r
    exact r
  · have r := RcAt.lists_lengths (A := A) t1 t2 (by rw [List.size_toArray, List.size_toArray, i1.length, i2.length]; simpa using h) hu
    rw [show (x == y) = false by simpa using fun e : x = y => h (congrArg _ e)]
    exact r
theorem eq_lsts {l b : Addr} {x y : List Int} (h1 : LstAt s.heap l x) (h2 : LstAt s.heap b y) (hu : A.units < cLine) : EqAt A s (.ref l) (.ref b) (x == y) := by
  by_cases e : l = b
  · subst e
    rw [h1.one h2, beq_self_eq_true]; exact EqAt.same _
  · exact EqAt.of_refs e (rc_lsts h1 h2 hu)
theorem LtAt.ints (a b : Int) (t u : Tok) : LtAt A s (.int a t) (.int b u) (decide (a < b)) := fun _ _ _ _ h => PyProof.Rows.lt_int h
theorem LtAt.tuples {l b : Addr} {items items2 : Array Value} {e k : Nat → Bool} (hl : s.heap.IsTuple l items) (hb : s.heap.IsTuple b items2) (hu : A.units < cLine)
    (he : ∀ j (h1 : j < items.size) (h2 : j < items2.size), EqAt A.in1 s items[j] items2[j] (e j)) (hk : ∀ j (h1 : j < items.size) (h2 : j < items2.size), e j = false → LtAt A.in1 s items[j] items2[j] (k j)) :
    LtAt A s (.ref l) (.ref b) (lexB e k (decide (items.size < items2.size)) (List.range (min items.size items2.size))) := fun prog w E Q h => by
  obtain ⟨⟨cls, dd, data, sl⟩, ho, hc, n, hd⟩ := id hl
  obtain ⟨⟨cls2, dd2, data2, sl2⟩, ho2, hc2, n2, hd2⟩ := id hb
  simp only at hc hd hc2 hd2
  subst hc hd hc2 hd2
  exact richCompare_meets_room (op := .Lt) ⟨_, ho, rfl⟩ ⟨_, ho2, rfl⟩ F.slot_tuple_lt F.entry_tuple_lt (F.args_tuple_lt_2 _ _) (tuple_ltAt l b items items2 n n2 dd dd2 sl sl2 e k)
    ⟨ho, ho2, he, hk, ⟨(fun x => nomatch x), h⟩⟩ hu
theorem lt_tups {l b : Addr} {x y : List Int} (h1 : TupAt s.heap l x) (h2 : TupAt s.heap b y) (hu : A.units < cLine) : LtAt A s (.ref l) (.ref b) (ltL x y) := by
  obtain ⟨cv, t1, i1⟩ := h1
  obtain ⟨cv', t2, i2⟩ := h2
  have r := LtAt.tuples (A := A) (e := fun i => x.getD i 0 == y.getD i 0) (k := fun i => decide (x.getD i 0 < y.getD i 0)) t1 t2 hu (fun j j1 j2 => by
    obtain ⟨t, e1⟩ := int_get i1 j1
    obtain ⟨u, e2⟩ := int_get i2 j2
    rw [e1, e2]; exact EqAt.int_int _ _ _ _) (fun j j1 j2 _ => by
    obtain ⟨t, e1⟩ := int_get i1 j1
    obtain ⟨u, e2⟩ := int_get i2 j2
    rw [e1, e2]; exact LtAt.ints _ _ _ _)
  rw [List.size_toArray, List.size_toArray, i1.length, i2.length, ← ltL_lex] at r
  exact r
theorem rc_keys {a b c d : Addr} {k l : Key} {u t : Tok} (h1 : s.heap.IsTuple a #[.int k.1 u, .ref c]) (h2 : s.heap.IsTuple b #[.int l.1 t, .ref d]) (c1 : TupAt s.heap c k.2) (c2 : TupAt s.heap d l.2) (hu : A.units + 1 < cLine) : RcAt A s (.ref a) (.ref b) (k == l) := by
  have r := RcAt.tuples (A := A) (e := fun i => if i = 0 then k.1 == l.1 else k.2 == l.2) h1 h2 (by omega) (fun j j1 j2 => by
    obtain rfl | rfl : j = 0 ∨ j = 1 := by simp at j1; omega
    · exact EqAt.int_int _ _ _ _
    · exact eq_tups c1 c2 hu)
  have e : ((List.range (min (#[Value.int k.1 u, Value.ref c] : Array Value).size (#[Value.int l.1 t, Value.ref d] : Array Value).size)).all (fun i => if i = 0 then k.1 == l.1 else k.2 == l.2) && (#[Value.int k.1 u, Value.ref c] : Array Value).size == (#[Value.int l.1 t, Value.ref d] : Array Value).size) = (k == l) := by
    show (((k.1 == l.1) && ((k.2 == l.2) && true)) && true) = (k == l)
    rw [Bool.and_true, Bool.and_true]; rfl
  rw [e] at r; exact r
theorem eq_keys {v x : Value} {k l : Key} (h1 : KeyAt s.heap v k) (h2 : KeyAt s.heap x l) (hu : A.units + 1 < cLine) : EqAt A s v x (k == l) := by
  have h1' := h1
  have h2' := h2
  obtain ⟨a, c, u, rfl, t1, i1⟩ := h1
  obtain ⟨a', c', u', rfl, t2, i2⟩ := h2
  by_cases e : a = a'
  · subst e
    rw [h1'.one h2', beq_self_eq_true]; exact EqAt.same _
  · exact EqAt.of_refs e (rc_keys t1 t2 i1 i2 hu)
theorem lt_keys {v x : Value} {k l : Key} (h1 : KeyAt s.heap v k) (h2 : KeyAt s.heap x l) (hu : A.units + 1 < cLine) : LtAt A s v x (ltK k l) := by
  obtain ⟨a, c, u, rfl, t1, i1⟩ := h1
  obtain ⟨a', c', u', rfl, t2, i2⟩ := h2
  exact LtAt.tuples (A := A) (e := fun i => if i = 0 then k.1 == l.1 else k.2 == l.2) (k := fun i => if i = 0 then decide (k.1 < l.1) else ltL k.2 l.2) t1 t2 (by omega) (fun j j1 j2 => by
    obtain rfl | rfl : j = 0 ∨ j = 1 := by simp at j1; omega
    · exact EqAt.int_int _ _ _ _
    · exact eq_tups i1 i2 hu) (fun j j1 j2 _ => by
    obtain rfl | rfl : j = 0 ∨ j = 1 := by simp at j1; omega
    · exact LtAt.ints _ _ _ _
    · exact lt_tups i1 i2 hu)
end
section
variable {prog : Program} {w : World} {A : Around} {E : Value → Shared → Prop} {s : Shared}
theorem sort_keys {v x : Value} {k l : Key} {Q : Bool → Shared → Prop} (h1 : KeyAt s.heap v k) (h2 : KeyAt s.heap x l) (hu : A.units + 1 < cLine) (h : Q (ltK k l) s) : wpAny (model prog w) A (keyLt' (tuples' true) v x) Q E s := by
  obtain ⟨a, c, u, rfl, ⟨o1, g1, _, n1, d1⟩, i1⟩ := h1
  obtain ⟨a', c', u', rfl, ⟨o2, g2, _, n2, d2⟩, i2⟩ := h2
  refine kat_lt g1 d1 g2 d2 ?_
  show KatLex _ _ _ _ _ _ [(.int k.1 u, .int l.1 u'), (.ref c, .ref c')] _ _
  refine kat_cons (EqAt.int_int _ _ _ _ _ _ _ _ ?_)
  unfold ltK at h
  refine kat_go (fun e => kat_yes ?_) (fun e => kat_no ?_)
  · rw [if_pos e] at h
    refine kat_cons (eq_tups i1 i2 (by omega) _ _ _ _ ?_)
    refine kat_go (fun e => kat_yes ?_) (fun e => kat_no ?_)
    · rw [if_pos e] at h
      exact kat_nil h
    · rw [if_neg (by rw [e]; exact Bool.false_ne_true)] at h
      exact kat_one _ _ (lt_tups i1 i2 (by omega) _ _ _ _ h)
  · rw [if_neg (by rw [e]; exact Bool.false_ne_true)] at h
    exact oneLt_int h
end
/-- the order of the heap's values by their keys -/
theorem cmpOk_keys {w : World} {rest : List (Addr × Obj)} {vs : List Value} {kf : Value → Key} (hv : ∀ v ∈ vs, ∀ h : Heap, (∀ p ∈ rest, h.get? p.1 = some p.2) → KeyAt h v (kf v)) : CmpOk w rest vs (fun v u => ltK (kf v) (kf u)) := by
  intro v hv1 u hu1 A s E Q hun hr h
  exact lt_keys (hv v hv1 _ hr) (hv u hu1 _ hr) (by unfold cLine; omega) _ _ _ _ h
theorem ltL_irr : ∀ a, ltL a a = false
  | [] => rfl
  | a :: r => by simp [ltL, ltL_irr r]
theorem ltL_tr : ∀ a b c, ltL a b = true → ltL b c = true → ltL a c = true
  | [], [], _, h, _ => by simp [ltL] at h
  | [], _ :: _, [], _, h => by simp [ltL] at h
  | [], _ :: _, _ :: _, _, _ => rfl
  | _ :: _, [], _, h, _ => by simp [ltL] at h
  | _ :: _, _ :: _, [], _, h => by simp [ltL] at h
  | x :: r, y :: t, z :: q, h1, h2 => by
    have ih := ltL_tr r t q
    unfold ltL at h1 h2 ⊢
    by_cases e1 : x = y <;> by_cases e2 : y = z
    · subst e1 e2; simp at h1 h2 ⊢; exact ih h1 h2
    · subst e1; simp [e2] at h2 ⊢; exact h2
    · subst e2; simp [e1] at h1 ⊢; exact h1
    · have e3 : x ≠ z := by simp [e1, e2] at h1 h2; omega
      simp [e1, e2, e3] at h1 h2 ⊢; omega
theorem ltL_tot : ∀ a b, ltL a b = false → ltL b a = false → a = b
  | [], [], _, _ => rfl
  | [], _ :: _, h, _ => by simp [ltL] at h
  | _ :: _, [], _, h => by simp [ltL] at h
  | x :: r, y :: t, h1, h2 => by
    have ih := ltL_tot r t
    unfold ltL at h1 h2
    by_cases e1 : x = y
    · subst e1; simp at h1 h2; rw [ih h1 h2]
    · have e2 : y ≠ x := fun e => e1 e.symm
      simp [e1, e2] at h1 h2; omega
theorem ltK_eq (k l : Key) : ltK k l = if k.1 = l.1 then ltL k.2 l.2 else decide (k.1 < l.1) := by
  unfold ltK
  by_cases e : k.1 = l.1
  · rw [if_pos e, if_pos (by simpa using e)]
    by_cases e2 : k.2 = l.2
    · rw [if_pos (by simpa using e2), e2, ltL_irr]
    · rw [if_neg (by simpa using e2)]
  · rw [if_neg e, if_neg (by simpa using e)]
theorem ltK_ord : Ord ltK where
  irr a := by rw [ltK_eq, if_pos rfl, ltL_irr]
  tr a b c h1 h2 := by
    rw [ltK_eq] at *
    by_cases e1 : a.1 = b.1 <;> by_cases e2 : b.1 = c.1
    · rw [if_pos e1] at h1; rw [if_pos e2] at h2; rw [if_pos (e1.trans e2)]; exact ltL_tr _ _ _ h1 h2
    · rw [if_neg e2] at h2; rw [if_neg (by omega)]; simp at h2 ⊢; omega
    · rw [if_neg e1] at h1; rw [if_neg (by omega)]; simp at h1 ⊢; omega
    · rw [if_neg e1] at h1; rw [if_neg e2] at h2; simp at h1 h2; rw [if_neg (by omega)]; simp; omega
  tot a b h1 h2 := by
    rw [ltK_eq] at *
    by_cases e1 : a.1 = b.1
    · rw [if_pos e1] at h1; rw [if_pos e1.symm] at h2; exact Prod.ext e1 (ltL_tot _ _ h1 h2)
    · rw [if_neg e1] at h1; rw [if_neg (by omega)] at h2; simp at h1 h2; omega
end Mine
end
section
open PySem PySem.W PyProof.Rows PySem.Calls
open PyProof.Rows.LCg (lst NsObj SrcAt)
open PySem.SeqAt
set_option Elab.async false
set_option maxRecDepth 100000
set_option maxHeartbeats 8000000
namespace Mine
theorem set_back_MAsk : True := by w_top off; trivial
theorem words_MAsk : True := by
  k_with_none
  k_with "m s0" => ((fail_if_success (with_reducible show WStep _ _ _ _ _ _)); (fail_if_success (with_reducible show wpAny _ _ (eval (Expr.ListComp _ _ _ _) _) _ _ _)); (fail_if_success (with_reducible show wpAny _ _ (exec (Stmt.For _ _ _ _ _) _) _ _ _)); (fail_if_success (with_reducible show wpAny _ _ (exec (Stmt.Assign _ (Expr.ListComp _ _ _ _) _ _) _) _ _ _)))
  k_with "m get" => ((repeat (first | assumption | exact get_eq | refine get_ne (by decide) ?_ | rfl)))
  k_with "eval Name" => (((with_reducible show wpAny _ _ (eval (Expr.Name _ _) (envOf _ _ _ _ _)) _ _ _); k_dflt (refine' ld ?z9k1 ?z9k2 ?_; (case z9k1 => k_asm); (case z9k2 => walk_at "m get"); k_whole)))
  k_with "m go" => ((repeat ((fail_if_success (with_reducible show WStep _ _ _ _ _ _)); first | walk1 | (dsimp only; walk1))))
  k_with "subscriptTail" => (((with_reducible show wpAny _ _ (subscriptTail _ _ (Value.ref _) (Value.int _ _)) _ _ _); (refine' item_h ?z9k1 ?z9k2 ?z9k3 ?z9k4 ?_; (case z9k1 => assumption); (case z9k2 => omega); (case z9k3 => omega); (case z9k4 => assumption); k_whole)))
  k_with "setItem ref int" => ((((with_reducible show wpAny _ _ (setItem (Value.ref _) (Value.int _ _) _) _ _ _); (refine' setItem_h ?z9k1 ?z9k2 ?z9k3 ?z9k4 ?z9k5 ?z9k6 ?_; (case z9k1 => assumption); (case z9k2 => assumption); (case z9k3 => assumption); (case z9k4 => omega); (case z9k5 => assumption); (case z9k6 => omega); k_whole); intro h' F' N'); revert h' F' N'; intro _ _ _))
  k_with "call builtin:len" => (((with_reducible show wpAny _ _ (call (Value.builtin _) [Value.ref _]) _ _ _); (refine' len_h ?z9k1 ?z9k2 ?_; (case z9k1 => assumption); (case z9k2 => first | assumption | (simp only [List.length_append, List.length_cons, List.length_nil]; omega)); k_whole)))
  k_with "call builtin:list.append" => ((((with_reducible show wpAny _ _ (call (Value.builtin _) [Value.ref _, _]) _ _ _); (refine' append_h ?z9k1 ?z9k2 ?z9k3 ?z9k4 ?_; (case z9k1 => assumption); (case z9k2 => assumption); (case z9k3 => assumption); (case z9k4 => omega); k_whole); intro h' F' N'); revert h' F' N'; intro _ _ _))
  k_with "call builtin:list.pop" => ((((with_reducible show wpAny _ _ (call (Value.builtin _) [Value.ref _]) _ _ _); (refine' pop_h ?z9k1 ?z9k2 ?z9k3 ?z9k4 ?_; (case z9k1 => assumption); (case z9k2 => assumption); (case z9k3 => assumption); (case z9k4 => omega); k_whole); intro h' F' N'); revert h' F' N'; intro _ _ _))
  k_with "eval Name" => (((with_reducible show wpAny _ _ (eval (Expr.Name _ _) (compEnvC _ _ _ _)) _ _ _); k_dflt (refine' PySem.W.LCgL.ld_own ?z9k1 ?z9k2 ?z9k3 ?z9k4 ?_; (case z9k1 => k_asm); (case z9k2 => exact List.Mem.head _); (case z9k3 => assumption); (case z9k4 => walk_at "m get"); k_whole)))
  k_with "m mem" => (first | assumption | exact List.Mem.head _ | exact List.mem_append.mpr (Or.inl (by assumption)) | exact List.mem_append.mpr (Or.inr (by assumption)) | (refine List.Mem.tail _ ?_; walk_at "m mem"))
  k_with "subscriptTail" => (((with_reducible show wpAny _ _ (subscriptTail _ _ (Value.ref _) (Value.int _ _)) _ _ _); (refine' item_m ?z9k1 ?z9k2 ?z9k3 ?z9k4 ?z9k5 ?_; (case z9k1 => assumption); (case z9k5 => assumption); (case z9k2 => walk_at "m mem"); (case z9k3 => omega); (case z9k4 => omega); k_whole)))
  k_with "m sub" => ((intro q9 hq9; simp only [List.cons_append, List.nil_append, List.append_assoc, List.mem_cons, List.mem_append, List.not_mem_nil, or_false, false_or] at hq9 ⊢; grind))
  k_with "truthy ref" => ((k_dflt (refine' truthy_D ?z9N ?z9d ?z9m ?z9s ?z9f ?_; (case z9N => assumption); (case z9d => assumption); (case z9m => walk_at "m mem"); (case z9s => assumption); (case z9f => first | assumption | decide | omega); k_whole)))
  k_with "m enterC2" => ((   (case kA => exact rfl); (case kF => assumption); (case kK => assumption); (case k1 => assumption); (case k2 => assumption); (case k3 => assumption); (case k4 => assumption); (case k5 => assumption);   (case k6 => k_is); (case k7 => k_is); (case k8 => k_room); (case k9 => first | exact BindsTo.of_eq rfl | exact binds_K (by k_in) rfl (by k_is) rfl rfl rfl); (case kB => exact rfl); (case kD => decide +kernel); (case c2 => exact rfl); (case c3 => exact rfl); (case c4 => exact rfl)))
  k_with "m iter list" => ((refine' iter_listN ?z9kF ?z9kN ?z9kS ?_; (case z9kF => assumption); (case z9kN => assumption); (case z9kS => walk_at "m mem")))
  k_with "truthy ref" => ((k_dflt (refine' truthy_L ?z9N ?z9m ?z9f ?_; (case z9N => assumption); (case z9m => walk_at "m mem"); (case z9f => first | assumption | omega); k_whole)))
  k_with "call type:set" => ((((with_reducible show wpAny _ _ (call (Value.type _) [Value.ref _]) _ _ _); k_dflt (refine' set_new_strsN ?z9F ?z9N ?z9m ?z9v ?z9n ?z9hh ?z9f ?_; (case z9F => assumption); (case z9N => assumption); (case z9m => walk_at "m mem"); (case z9v => assumption); (case z9n => assumption); (case z9hh => exact rfl); (case z9f => first | assumption | omega); k_whole); intro h' tk' D' o' F' N' hS' l1'; (try k_lt l1')); revert h' tk' D' o' F' N' hS' l1'; intro _ _ _ _ _ _ _ _))
  k_with "call type:set nil nil" => (((k_dflt (refine' set_new_0 ?z9F ?z9N ?_; (case z9F => assumption); (case z9N => assumption); k_whole); intro h' D' o' F' N' hS' l1'; (try k_lt l1')); revert h' D' o' F' N' hS' l1'; intro _ _ _ _ _ _ _))
  k_with "getItem ref str" => (((k_dflt (refine' getItem_D ?z9N ?z9d ?z9f ?z9m ?z9s ?z9l ?_; (case z9N => assumption); (case z9d => assumption); (case z9f => assumption); (case z9m => walk_at "m mem"); (case z9s => assumption); (case z9l => assumption); k_whole); intro v' hv'); revert v' hv'; intro _ _))
  k_with "compareOp In str ref" => ((k_dflt (refine' in_set ?z9N ?z9m ?z9d ?_; (case z9N => assumption); (case z9d => assumption); (case z9m => walk_at "m mem"); k_whole)))
  k_with "setItem ref str" => (((k_dflt (refine' setItem_K PyProof.V.same_str (strKind_is _ _ _ _) ?z9v ?z9F ?z9N ?z9U ?z9d ?z9f ?_ ?z9z; (case z9F => assumption); (case z9N => assumption); (case z9U => k_updF); (case z9d => assumption); (case z9f => assumption); (case z9z => (rw [sizeLine_eq]; omega)); (case z9v => k_flat)); intro h' o' F' N' hd' hf'; (try dsimp only at N')); revert h' o' F' N' hd' hf'; intro _ _ _ _ _ _))
  k_with "binaryOp Add str str" => (((refine PyProof.Rows.add_str (hsz := ?z9hsz) ?_); (case z9hsz => (have e1 : (Str.ofString ".").length = 1 := by decide); (have e2 : (Str.ofString "/").length = 1 := by decide); (have e3 : (Str.ofString "/.").length = 2 := by decide); rw [sizeLine_eq]; omega); intro _ _))
  k_with "eval Name" => (((with_reducible show wpAny _ _ (eval (Expr.Name _ _) (compEnvC _ _ _ _)) _ _ _); k_dflt (refine' PySem.W.LCgL.ld_own ?z9k1 ?z9k2 ?z9k3 ?z9k4 ?_; (case z9k1 => k_asm); (case z9k2 => walk_at "m mem"); (case z9k3 => assumption); (case z9k4 => walk_at "m get"); k_whole)))
  k_with "m on" => ((repeat' (walk_at "m s0"; (fail_if_success (with_reducible show wpAny _ _ (call (Value.ref _) _ _) _ _ _)); first | walk1 | (dsimp only; walk1) | (with_reducible refine ite_neg Bool.false_ne_true ?_) | (with_reducible refine ite_pos rfl ?_))))
  k_with "m cmp" => ((repeat' (walk_at "m s0"; (fail_if_success (with_reducible show wpAny _ _ (call (Value.ref _) _ _) _ _ _)); (fail_if_success (with_reducible show wpAny _ _ (compareOp _ (Value.ref _) (Value.ref _)) _ _ _)); first | walk1 | (dsimp only; walk1) | (with_reducible refine ite_neg Bool.false_ne_true ?_) | (with_reducible refine ite_pos rfl ?_))))
  k_with "eval Name" => (((with_reducible show wpAny _ _ (eval (Expr.Name _ _) (envOfC _ _ _ _ _)) _ _ _); k_dflt (refine' nameX_L ?z9F ?z9v ?_ ?z9a ?z9b; (case z9F => k_asm); (case z9a => rfl); (case z9b => rfl); (case z9v => walk_at "m get"); k_whole)))
  k_with "callWith" => (first | with_reducible refine PyProof.Rows.callWith_method0 ?_ | with_reducible refine PyProof.Rows.callWith_builtin1 ?_ | with_reducible refine PyProof.Rows.callWith_method1 ?_)
  trivial
noncomputable def PathIs (pv : Value) (fn : Option Str) : Prop := pv = .none ∧ fn = none ∨ ∃ f u, pv = .str f u ∧ fn = some f
/-- the calls' list, its pairs in the ledger -/
noncomputable def CallsOk (cvs : List Value) (cl : Led) (calls : List (Option Str × Str)) : Prop :=
  cvs.length = calls.length ∧ ∀ i (h : i < calls.length), ∃ a pv u, cvs[i]? = some (.ref a) ∧ (a, tupOf [pv, .str calls[i].2 u]) ∈ cl ∧ PathIs pv calls[i].1
noncomputable def modsOf (ch : List Int) : List Str := (ch.filter (fun k => decide (k < 2))).map ent
noncomputable def dirsOf (ch : List Int) : List Str := (ch.filter (fun k => decide (2 ≤ k))).map ent
noncomputable def dirsDot (ch : List Int) : List Str := (ch.filter (fun k => decide (2 ≤ k))).map fun k => ent k ++ Str.ofString "/."
theorem modsOf_nodup {ch : List Int} (hn : ch.Nodup) (hk : ∀ k ∈ ch, 0 ≤ k ∧ k < 4) : (modsOf ch).Nodup := by
  unfold modsOf
  rw [List.Nodup, List.pairwise_map]
  refine List.Pairwise.imp_of_mem ?_ (hn.filter _)
  intro a b ha hb hab e
  obtain ⟨ha1, ha2⟩ := List.mem_filter.mp ha
  obtain ⟨hb1, hb2⟩ := List.mem_filter.mp hb
  have h1 := hk a ha1
  have h2 := hk b hb1
  simp only [decide_eq_true_eq] at ha2 hb2
  obtain rfl | rfl : a = 0 ∨ a = 1 := by omega
  all_goals obtain rfl | rfl : b = 0 ∨ b = 1 := by omega
  · exact hab rfl
  · revert e; decide
  · revert e; decide
  · exact hab rfl
theorem dirsDot_ok {ch : List Int} (hk : ∀ k ∈ ch, 0 ≤ k ∧ k < 4) : (∀ d ∈ dirsDot ch, d = Str.ofString "/l/." ∨ d = Str.ofString "/l/a/.") ∧ (dirsDot ch).map normS = dirsOf ch := by
  constructor
  · intro d hd
    obtain ⟨k, hk1, rfl⟩ := List.mem_map.mp hd
    obtain ⟨hk2, hk3⟩ := List.mem_filter.mp hk1
    have := hk k hk2
    simp only [decide_eq_true_eq] at hk3
    obtain rfl | rfl : k = 2 ∨ k = 3 := by omega
    · exact .inl rfl
    · exact .inr rfl
  · unfold dirsDot dirsOf
    rw [List.map_map]
    apply List.map_congr_left
    intro k hk1
    obtain ⟨hk2, hk3⟩ := List.mem_filter.mp hk1
    have := hk k hk2
    simp only [decide_eq_true_eq] at hk3
    obtain rfl | rfl : k = 2 ∨ k = 3 := by omega
    · decide
    · decide
theorem ent_len (k : Int) : (ent k).length < 1000 := by
  unfold ent; split
  · decide
  · split
    · decide
    · split <;> decide
/-- a call of names, with the rest of the ledger -/
theorem ask_call {x dx sm sd si : Addr} {om oi : Obj} {vd : List Value} {q : Nat} {t1 t2 t3 : Tok} {others : Led} {w : World} {A A₀ : Around} {s : Shared} {h₀ base : Heap} {outer : List Env} {L : Addr} {m mg mb : Str → Option Value} {mean : ExcName → Option Value} {p : Program} {loose : List Str} {env : Env} {Q : Value → Shared → Prop} {E : Value → Shared → Prop}
 (B : Below A₀ base outer h₀) (F : Fr h₀ L s.heap m) (X₀ : (Mine.hd.heap_1 w.params).In h₀) (N : News h₀ L s.heap (rdr w.params x dx sm sd si om oi vd q t1 t2 t3 ++ others)) (T : Top p loose mean mg mb h₀) (hA : A.frames = some (env :: outer)) (hf : env.frame = some L) (hke : env.scope.kind = .function)
 {kvs : List (Str × Value)} {Di : List (Str × Int)} {xs ds : List Str} (hr : RdrOk w x dx sm sd si om oi vd kvs (dat Di) xs ds) (hD : Di.length < 1000) (hds : ds.length < 1000) (hxl : ∀ x ∈ xs, x.length < 1000) (hdl : ∀ d ∈ ds, d.length < 1000) {fv : Value} {fn : Option Str} {md : Str} {u : Tok} (hfv : PathIs fv fn)
 (hd : A.depth < 800) (hh : A.handled = none) (hap : ∀ p ∈ others, p.1 ∉ [si, sd, sm, x, dx])
 (h : ∀ h' tk dr oi' kvs' t, Fr h₀ L h' m → News h₀ L h' (rdr w.params x dx sm sd si om oi' vd q t1 t2 t3 ++ others) → RdrOk w x dx sm sd si om oi' vd kvs' (dat (nD xs ds Di fn md)) xs ds → Q (.int (nV xs ds Di fn md) t) { s with heap := h', toks := tk, drawn := dr }) :
 wpAny (model PySem.Challenge.rw_nq0047_02.row.prog w) A (call (.ref 111) [.ref x, fv, .str md u]) Q E s := by
  refine wpAny_call ?_
  refine names_K B F X₀ (news_left N) T hA hf hke hr (by simpa [dat] using hD) hds hxl hdl hfv hd hh ?_
  intro h' tk dr oi' kvs' F' N' hr' kp ap v hv
  rw [namesV_dat] at hv
  obtain ⟨t, rfl⟩ : ∃ t, v = .int (nV xs ds Di fn md) t := by have h9 := hv s.heap; cases h9; exact ⟨_, rfl⟩
  · rw [namesD_dat] at hr'
    exact h h' tk dr oi' kvs' t F' (news_app N' (fun p hp => ⟨kp _ _ (N p (List.mem_append.mpr (.inr hp))).1 (hap p hp), (N p (List.mem_append.mpr (.inr hp))).2⟩)) hr'
/-- the end of a call that changes nothing old: what is new is handed on -/
theorem leaveAll {h h₀ g : Heap} {L L' : Addr} {l new : Led} {m m' : Str → Option Value} {R : Result → Shared → Prop} {v : Value} {s' : Shared} (hK : Kept h g (l.map (·.1))) (N0 : ∀ p ∈ l, h.get? p.1 = some p.2) (F' : Fr g L' s'.heap m') (N' : News g L' s'.heap (new ++ l)) (hne : ∀ p ∈ l, ∀ q ∈ new, p.1 ≠ q.1)
    (k : Fr h₀ L s'.heap m → News h₀ L s'.heap new → (∀ b o, h.get? b = some o → s'.heap.get? b = some o) → (∀ b o, h.get? b = some o → ∀ q ∈ new, b ≠ q.1) → R (.ok (.ret v)) s') : LeaveK h₀ L m g R v s' := by
  refine leaveKept hK F' N' fun kF kN kK kA => k kF (fun p hp => kN p (List.mem_append.mpr (.inl hp))) (fun b o e => ?_) (fun b o e q hq => ?_)
  · by_cases hb : b ∈ l.map (·.1)
    · obtain ⟨p, hp, rfl⟩ := List.mem_map.mp hb
      rw [N0 p hp] at e
      rw [← e]; exact (kN p (List.mem_append.mpr (.inr hp))).1
    · exact kK b o e hb
  · by_cases hb : b ∈ l.map (·.1)
    · obtain ⟨p, hp, rfl⟩ := List.mem_map.mp hb
      exact hne p hp q hq
    · exact kA b o e hb q (List.mem_append.mpr (.inl hq))
theorem rdr_mem {P : Params} {x dx sm sd si : Addr} {om oi : Obj} {vd : List Value} {q : Nat} {t1 t2 t3 : Tok} : ∀ a ∈ [si, sd, sm, x, dx], ∃ o, (a, o) ∈ rdr P x dx sm sd si om oi vd q t1 t2 t3 := by
  intro a ha
  simp only [List.mem_cons, List.not_mem_nil, or_false] at ha
  rcases ha with rfl | rfl | rfl | rfl | rfl
  · exact ⟨_, .head _⟩
  · exact ⟨_, .tail _ (.head _)⟩
  · exact ⟨_, .tail _ (.tail _ (.head _))⟩
  · exact ⟨_, .tail _ (.tail _ (.tail _ (.head _)))⟩
  · exact ⟨_, .tail _ (.tail _ (.tail _ (.tail _ (.head _))))⟩
theorem asked_K {c ca : Addr} {cv cvs : List Value} {q : Nat} {cl : Led} {w : World} {A A₀ : Around} {s : Shared} {h₀ base : Heap} {outer : List Env} {L : Addr} {m mg mb : Str → Option Value} {mean : ExcName → Option Value} {p : Program} {loose : List Str} {env : Env} {R : Result → Shared → Prop}
 (B : Below A₀ base outer h₀) (F : Fr h₀ L s.heap m) (X₀ : (Mine.hd.heap_1 w.params).In h₀) (N : News h₀ L s.heap ((c, tupOf cv) :: (ca, listOf cvs.toArray q) :: cl)) (T : Top p loose mean mg mb h₀) (hA : A.frames = some (env :: outer)) (hf : env.frame = some L) (hke : env.scope.kind = .function) {ch : List Int} (hc : IntsAre cv ch) (hk : ∀ k ∈ ch, 0 ≤ k ∧ k < 4) (hnd : ch.Nodup) (hl : ch.length < 90) {calls : List (Option Str × Str)} (hcs : CallsOk cvs cl calls) (hcl : calls.length < 100)
 (hag : (runS (modsOf ch) (dirsOf ch) ([], (runS (modsOf ch) (dirsOf ch) ([], [(Str.ofString "<string>", 1)]) calls).2) (calls.map fun c => (none, c.2))).1 = (runS (modsOf ch) (dirsOf ch) ([], [(Str.ofString "<string>", 1)]) calls).1)
 (hd : A.depth < 700) (hu : A.units < 300) (hh : A.handled = none)
 (h : ∀ h' tk dr D ts, Fr h₀ L h' m → News h₀ L h' [(D, lst ts)] → IntsAre ts (runS (modsOf ch) (dirsOf ch) ([], [(Str.ofString "<string>", 1)]) calls).1 → (∀ b o, s.heap.get? b = some o → h'.get? b = some o) → (∀ b o, s.heap.get? b = some o → b ≠ D) → R (.ok (.ret (.ref D))) { s with heap := h', toks := tk, drawn := dr }) :
 codeAny (model PySem.Challenge.rw_nq0047_02.row.prog w) A (.call (.ref 128) ⟨[.ref c, .ref ca], []⟩) R s := by
  have N0 : ∀ p ∈ (c, tupOf cv) :: (ca, listOf cvs.toArray q) :: cl, s.heap.get? p.1 = some p.2 := fun p hp => (N p hp).1
  obtain ⟨hdl', dep', frs', gs', un'⟩ := A
  replace hA : frs' = some (env :: outer) := hA
  replace hh : hdl' = none := hh
  subst hA hh
  replace hd : dep' < _ := hd
  revert X₀
  k_fill
  intro X₀
  refine' code_defCK (binds := [(Str.ofString "chosen", .ref c), (Str.ofString "calls", .ref ca)]) ?k1 ?k2 ?k3 ?k4 ?k5 ?kA ?kF ?kK ?k6 ?k7 ?k8 ?k9 ?kB ?kD ?_ ?c2 ?c3 ?c4
  walk_at "m enterC2"
  intro g' L' h' tk' cells' FG' F' N' Y' B' X' T' lK hK
  have hY := CellsAre.one Y'
  obtain ⟨oc, hE, hoc⟩ := hY
  subst hE
  clear Y' F N B X₀ T
  refine wpAny_noRaise ?_
  k_fold
  walk_at "m on"
  refine wpAny_call ?_
  refine entries_K (by assumption) (by assumption) (by assumption) (news_sub (l' := [(c, tupOf cv)]) N' (by walk_at "m sub")) (by assumption) rfl rfl rfl hc hk (by omega) ?_ rfl ?_
  · k_room
  intro h1 tk1 dr1 De es F1 N1 hes kp1 ap1 ne1
  have k1 := (Kept.whole (l := [(c, tupOf cv)]) kp1 (news_sub N' (by walk_at "m sub")) (news_tail N1)).all
  have a1 := Apart.led ((ap1.sub (new' := [(De, lst es)]) (by simp)).whole (l := [(c, tupOf cv)]) (by simpa using ne1)) N'
  have N1' := news_cons (news_left (a := [(De, lst es)]) N1) (N'.grown k1)
  clear N1 N' kp1 ap1
  replace a1 : ∀ p ∈ (L' + 1, oc) :: (c, tupOf cv) :: (ca, listOf cvs.toArray q) :: cl, p.1 ≠ De := fun p hp => a1 p hp _ (.head _)
  replace N1' : News g' L' h1 ((De, lst es) :: (L' + 1, oc) :: (c, tupOf cv) :: (ca, listOf cvs.toArray q) :: cl) := N1'
  walk_at "m on"
  refine comp_eval (h₀ := g') (L := L') rfl ?_ rfl ?_ ?_
  · decide
  · decide
  walk_at "m go"
  walk_at "m iter list"
  intro h2 I own F2 N2 off2 ok2
  refine csrc1 (nextOk_list rfl) self_list F2 N2 off2 ok2 (fun i ys => StrList ys (modsOf (ch.take i))) ?_ ?_ ?_ (fun _ _ _ h => h.2) rfl rfl ?_ ?_
  · rw [List.size_toArray, hes.1, List.length_map]; omega
  · intro i ys hi; rw [hi.1]; unfold modsOf; rw [List.length_map]; exact Nat.le_trans (List.length_filter_le _ _) (by rw [List.length_take]; exact Nat.min_le_left _ _)
  · exact StrList.nil
  · intro i v ys own C oC D mC h tk dr hi hP hJ offc hCD hoC F3 N3
    have hich : i < ch.length := by have := hes.1; rw [List.size_toArray, this, List.length_map] at hi; exact hi
    obtain ⟨u, hu⟩ := hes.2 i (by simpa using hich)
    rw [List.getElem_map] at hu
    obtain rfl : v = .str (ent ch[i]) u := by have := hP.1; rw [List.getElem?_toArray, hu] at this; cases this; rfl
    have hki := hk ch[i] (List.getElem_mem hich)
    have step : ch.take (i + 1) = ch.take i ++ [ch[i]] := by simp
    refine wpAny_tests_one ?_
    obtain h0 | h0 | h0 | h0 : ch[i] = 0 ∨ ch[i] = 1 ∨ ch[i] = 2 ∨ ch[i] = 3 := by omega
    all_goals (rw [h0] at hoC; rw [h0] at step)
    · replace hoC : NsObj oC (fun z => if z = Str.ofString "one" then some (.str (Str.ofString "a") u) else mC z) := hoC
      walk_at "m on"
      refine ⟨_, _, _, oC, _, rfl, by assumption, hoC, by assumption, ?_⟩
      rw [step]
      rw [show modsOf (ch.take i ++ [0]) = modsOf (ch.take i) ++ [Str.ofString "a"] by simp [modsOf]; rfl]
      exact hJ.snoc _ _
    · replace hoC : NsObj oC (fun z => if z = Str.ofString "one" then some (.str (Str.ofString "a.b") u) else mC z) := hoC
      walk_at "m on"
      refine ⟨_, _, _, oC, _, rfl, by assumption, hoC, by assumption, ?_⟩
      rw [step]
      rw [show modsOf (ch.take i ++ [1]) = modsOf (ch.take i) ++ [Str.ofString "a.b"] by simp [modsOf]; rfl]
      exact hJ.snoc _ _
    · replace hoC : NsObj oC (fun z => if z = Str.ofString "one" then some (.str (Str.ofString "/l") u) else mC z) := hoC
      walk_at "m on"
      refine ⟨_, _, _, oC, _, rfl, by assumption, hoC, by assumption, ?_⟩
      rw [step]
      rw [show modsOf (ch.take i ++ [2]) = modsOf (ch.take i) by simp [modsOf]]
      exact hJ
    · replace hoC : NsObj oC (fun z => if z = Str.ofString "one" then some (.str (Str.ofString "/l/a") u) else mC z) := hoC
      walk_at "m on"
      refine ⟨_, _, _, oC, _, rfl, by assumption, hoC, by assumption, ?_⟩
      rw [step]
      rw [show modsOf (ch.take i ++ [3]) = modsOf (ch.take i) by simp [modsOf]]
      exact hJ
  intro Dm h3 tk3 dr3 ym F3 N3 off3 hJm
  have hJm' : StrList ym (modsOf ch) := by
    rw [List.size_toArray, hes.1, List.length_map, List.take_length] at hJm; exact hJm
  walk_at "m on"
  refine comp_eval (h₀ := g') (L := L') rfl ?_ rfl ?_ ?_
  · decide
  · decide
  walk_at "m go"
  walk_at "m iter list"
  intro h2 I own F2 N2 off2 ok2
  refine csrc1 (nextOk_list rfl) self_list F2 N2 off2 ok2 (fun i ys => StrList ys (dirsDot (ch.take i))) ?_ ?_ ?_ (fun _ _ _ h => h.2) rfl rfl ?_ ?_
  · rw [List.size_toArray, hes.1, List.length_map]; omega
  · intro i ys hi; rw [hi.1]; unfold dirsDot; rw [List.length_map]; exact Nat.le_trans (List.length_filter_le _ _) (by rw [List.length_take]; exact Nat.min_le_left _ _)
  · exact StrList.nil
  · intro i v ys own C oC D mC h tk dr hi hP hJ offc hCD hoC F3 N3
    have hich : i < ch.length := by have := hes.1; rw [List.size_toArray, this, List.length_map] at hi; exact hi
    obtain ⟨u, hu⟩ := hes.2 i (by simpa using hich)
    rw [List.getElem_map] at hu
    obtain rfl : v = .str (ent ch[i]) u := by have := hP.1; rw [List.getElem?_toArray, hu] at this; cases this; rfl
    have hki := hk ch[i] (List.getElem_mem hich)
    have step : ch.take (i + 1) = ch.take i ++ [ch[i]] := by simp
    refine wpAny_tests_one ?_
    obtain h0 | h0 | h0 | h0 : ch[i] = 0 ∨ ch[i] = 1 ∨ ch[i] = 2 ∨ ch[i] = 3 := by omega
    all_goals (rw [h0] at hoC; rw [h0] at step)
    · replace hoC : NsObj oC (fun z => if z = Str.ofString "one" then some (.str (Str.ofString "a") u) else mC z) := hoC
      walk_at "m on"
      refine ⟨_, _, _, oC, _, rfl, by assumption, hoC, by assumption, ?_⟩
      rw [step]
      rw [show dirsDot (ch.take i ++ [0]) = dirsDot (ch.take i) by simp [dirsDot]]
      exact hJ
    · replace hoC : NsObj oC (fun z => if z = Str.ofString "one" then some (.str (Str.ofString "a.b") u) else mC z) := hoC
      walk_at "m on"
      refine ⟨_, _, _, oC, _, rfl, by assumption, hoC, by assumption, ?_⟩
      rw [step]
      rw [show dirsDot (ch.take i ++ [1]) = dirsDot (ch.take i) by simp [dirsDot]]
      exact hJ
    · replace hoC : NsObj oC (fun z => if z = Str.ofString "one" then some (.str (Str.ofString "/l") u) else mC z) := hoC
      walk_at "m on"
      refine ⟨_, _, _, oC, _, rfl, by assumption, hoC, by assumption, ?_⟩
      rw [step]
      rw [show dirsDot (ch.take i ++ [2]) = dirsDot (ch.take i) ++ [Str.ofString "/l/."] by simp [dirsDot]; rfl]
      exact hJ.snoc _ _
    · replace hoC : NsObj oC (fun z => if z = Str.ofString "one" then some (.str (Str.ofString "/l/a") u) else mC z) := hoC
      walk_at "m on"
      refine ⟨_, _, _, oC, _, rfl, by assumption, hoC, by assumption, ?_⟩
      rw [step]
      rw [show dirsDot (ch.take i ++ [3]) = dirsDot (ch.take i) ++ [Str.ofString "/l/a/."] by simp [dirsDot]; rfl]
      exact hJ.snoc _ _
  intro Dd h4 tk4 dr4 yd F4 N4 off4 hJd
  have hJd' : StrList yd (dirsDot ch) := by
    rw [List.size_toArray, hes.1, List.length_map, List.take_length] at hJd; exact hJd
  walk_at "m on"
  refine' call_cls ?k1 ?k2 ?k3 ?k4 ?k5 ?k6 ?_
  (case k1 => assumption); (case k2 => assumption); (case k3 => exact N4); (case k4 => k_is); (case k5 => k_is); (case k6 => k_is)
  intro x dx h5 F5 N5 l5 l6
  have q1 := l5 (Dm, lst ym) (.tail _ (.head _))
  have q2 := l5 (Dd, lst yd) (.head _)
  have off34 : ∀ p ∈ (L' + 1, oc) :: (c, tupOf cv) :: (ca, listOf cvs.toArray q) :: cl, ∀ r ∈ [(x, instObj 114 dx), (dx, dictOf [] 0), (Dm, lst ym), (Dd, lst yd)], p.1 ≠ r.1 := by
    intro p hp r hr
    have b1 := l5 p (.tail _ (.tail _ (.tail _ hp)))
    simp only [List.mem_cons, List.not_mem_nil, or_false] at hr
    rcases hr with rfl | rfl | rfl | rfl
    · exact Nat.ne_of_lt (Nat.lt_trans b1 l6)
    · exact Nat.ne_of_lt b1
    · exact off3 p (.tail _ hp)
    · exact off4 p (.tail _ (.tail _ hp))
  refine init_K (x := x) (dx := dx) (lm := Dm) (ld := Dd) (vm := ym) (vd := yd) (qm := ym.length) (qd := yd.length) (xs := modsOf ch) (ds := dirsDot ch) (by assumption) F5 (by assumption) (news_sub N5 ?_) (by assumption) rfl rfl rfl ?_ rfl ?_ ?_ hJm' ?_ ?_ l6 q1 q2 hJd' ?_ ?_
  · intro p hp
    simp only [List.mem_cons, List.not_mem_nil, or_false] at hp
    rcases hp with rfl | rfl | rfl | rfl
    · exact .head _
    · exact .tail _ (.head _)
    · exact .tail _ (.tail _ (.tail _ (.head _)))
    · exact .tail _ (.tail _ (.head _))
  · k_room
  · rw [hJm'.1]; unfold modsOf; rw [List.length_map]; exact Nat.lt_of_le_of_lt (List.length_filter_le _ _) (by omega)
  · rw [hJd'.1]; unfold dirsDot; rw [List.length_map]; exact Nat.lt_of_le_of_lt (List.length_filter_le _ _) (by omega)
  · exact modsOf_nodup hnd hk
  · unfold modsOf; rw [List.length_map]; exact Nat.lt_of_le_of_lt (List.length_filter_le _ _) (by omega)
  · exact (dirsDot_ok hk).1
  intro h6 tk6 sm sd si om oi vd qd t1 t2 t3 u1 dr6 F6 N6 hr6 kp6 ap6
  rw [(dirsDot_ok hk).2] at hr6
  have N6' := news_app (news_left N6) (Kept.news (l := [(x, instObj 114 dx), (dx, dictOf [] 0), (Dm, lst ym), (Dd, lst yd)]) kp6 (rest := (L' + 1, oc) :: (c, tupOf cv) :: (ca, listOf cvs.toArray q) :: cl) (news_sub N5 (by walk_at "m sub")) off34)
  have ap6' : ∀ p ∈ (L' + 1, oc) :: (c, tupOf cv) :: (ca, listOf cvs.toArray q) :: cl, p.1 ∉ [si, sd, sm, x, dx] := by
    intro p hp hm
    have a := Apart.rest (l := [(x, instObj 114 dx), (dx, dictOf [] 0), (Dm, lst ym), (Dd, lst yd)]) ap6 (rest := (L' + 1, oc) :: (c, tupOf cv) :: (ca, listOf cvs.toArray q) :: cl) (news_sub N5 (by walk_at "m sub")) off34 p hp
    simp only [List.mem_cons, List.not_mem_nil, or_false] at hm
    rcases hm with e | e | e | e | e
    · exact a (si, oi) (by simp) e
    · exact a (sd, listOf vd.toArray qd) (by simp) e
    · exact a (sm, om) (by simp) e
    · exact a (x, instObj 114 dx) (by simp) e
    · exact a (dx, _) (List.mem_append.mpr (.inl (.tail _ (.tail _ (.tail _ (.tail _ (.head _))))))) e
  clear N5 N6 N4 N3 kp6 ap6 off34 F5 off3 off4 a1
  have N7 : News g' L' h6 ((L' + 1, oc) :: (rdr w.params x dx sm sd si om oi vd qd t1 t2 t3 ++ ((c, tupOf cv) :: (ca, listOf cvs.toArray q) :: cl))) := news_sub N6' (by walk_at "m sub")
  have ne7 : ∀ p ∈ rdr w.params x dx sm sd si om oi vd qd t1 t2 t3 ++ ((c, tupOf cv) :: (ca, listOf cvs.toArray q) :: cl), p.1 ≠ L' + 1 := by
    intro p hp e
    rcases List.mem_append.mp hp with hp | hp
    · refine ap6' (L' + 1, oc) (.head _) ?_
      simp only [rdr, List.mem_cons, List.not_mem_nil, or_false] at hp ⊢
      rcases hp with rfl | rfl | rfl | rfl | rfl <;> simp [← e]
    · have := lK p hp
      rw [e] at this
      exact absurd this (Nat.not_lt.mpr (Nat.le_succ _))
  refine ⟨rfl, ?_⟩
  dsimp only
  refine' storeX_C ?kF ?kN ?kc ?kU ?kd ?_ ?ka ?kb
  (case ka => rfl); (case kb => rfl); (case kF => exact F6); (case kN => exact N7); (case kc => rfl); (case kU => exact UpdF.head ne7); (case kd => exact hoc)
  intro h7 oc7 F7 N7' hoc7
  clear N7 N6' F6 hoc
  walk1
  walk1
  refine comp_assign (h₀ := g') (L := L') ?_ rfl ?_ rfl ?_ ?_
  · with_unfolding_all rfl
  · decide
  · decide
  walk_at "m go"
  walk_at "m iter list"
  intro h8 I8 own8 F8 N8 off8 ok8
  refine csrcP (nextOk_list rfl) self_list rfl F8 N8 off8 ok8 (fun i ys nw => ∃ oi kvs, nw = (L' + 1, oc7) :: (rdr w.params x dx sm sd si om oi vd qd t1 t2 t3 ++ ((c, tupOf cv) :: (ca, listOf cvs.toArray q) :: cl)) ∧ RdrOk w x dx sm sd si om oi vd kvs (dat (runS (modsOf ch) (dirsOf ch) ([], [(Str.ofString "<string>", 1)]) (calls.take i)).2) (modsOf ch) (dirsOf ch) ∧ IntsAre ys (runS (modsOf ch) (dirsOf ch) ([], [(Str.ofString "<string>", 1)]) (calls.take i)).1)
    ?_ ?_ ⟨oi, _, rfl, hr6, .nil⟩ (fun i v1 v2 => ∃ (hi : i < calls.length) (u : Tok), v2 = .str calls[i].2 u ∧ PathIs v1 calls[i].1) ?_ rfl rfl rfl ?_ ?_
  · rw [List.size_toArray, hcs.1]; omega
  · rintro i ys nw ⟨_, _, _, _, hi⟩
    rw [hi.length, (runS_length _ _ _ _).1, List.length_take]; simp; omega
  · rintro i v ext ys nw ⟨hv, rfl⟩ ⟨oi', kvs', rfl, _, _⟩
    rw [List.getElem?_toArray] at hv
    have hi : i < calls.length := by have := (List.getElem?_eq_some_iff.mp hv).1; rw [hcs.1] at this; exact this
    obtain ⟨a, pv, u, e1, e2, e3⟩ := hcs.2 i hi
    rw [e1] at hv
    obtain rfl := Option.some.inj hv
    exact ⟨rfl, a, pv, _, rfl, .inr ⟨_, .tail _ (List.mem_append.mpr (.inr (.tail _ (.tail _ e2)))), rfl, _, rfl⟩, hi, u, rfl, e3⟩
  · rintro i v1 v2 ys nw own C oC D mC h9 tk9 dr9 hi ⟨hic, u9, rfl, hpi⟩ ⟨oi9, kvs9, rfl, hr9, hI9⟩ offc hown hCD hoC F9 N9 ok9
    refine wpAny_pure ?_
    with_reducible refine ite_pos rfl ?_
    walk_at "m on"
    refine ask_call (q := qd) (t1 := t1) (t2 := t2) (t3 := t3) (others := (C, oC) :: (D, lst ys) :: (L' + 1, oc7) :: (((c, tupOf cv) :: (ca, listOf cvs.toArray q) :: cl) ++ own)) (by assumption) F9 (by assumption) (news_sub N9 ?_) (by assumption) rfl rfl rfl hr9 ?_ ?_ ?_ ?_ hpi ?_ rfl ?_ ?_
    · walk_at "m sub"
    · have := (runS_length (modsOf ch) (dirsOf ch) (calls.take i) ([], [(Str.ofString "<string>", 1)])).2
      rw [List.length_take] at this
      simp only [List.length_cons, List.length_nil] at this
      omega
    · unfold dirsOf; rw [List.length_map]; exact Nat.lt_of_le_of_lt (List.length_filter_le _ _) (by omega)
    · intro y hy; obtain ⟨k, _, rfl⟩ := List.mem_map.mp hy; exact ent_len k
    · intro y hy; obtain ⟨k, _, rfl⟩ := List.mem_map.mp hy; exact ent_len k
    · k_room
    · intro p hp hm
      obtain ⟨o, ho⟩ := rdr_mem (oi := oi9) (P := w.params) (om := om) (vd := vd) (q := qd) (t1 := t1) (t2 := t2) (t3 := t3) _ hm
      have off := offc (p.1, o) (.tail _ (List.mem_append.mpr (.inl ho)))
      rcases List.mem_cons.mp hp with rfl | hp
      · exact off (.head _)
      · rcases List.mem_cons.mp hp with rfl | hp
        · exact off (.tail _ (.head _))
        · rcases List.mem_cons.mp hp with rfl | hp
          · exact ap6' (L' + 1, oc) (.head _) hm
          · rcases List.mem_append.mp hp with hp | hp
            · exact ap6' p (.tail _ hp) hm
            · exact off (.tail _ (.tail _ (hown p hp)))
    · intro h10 tk10 dr10 oi10 kvs10 t10 F10 N10 hr10
      obtain ⟨o11, rfl, hc11, hd11, _⟩ := ok9
      refine ⟨h10, tk10, dr10, _, oC, _, (L' + 1, oc7) :: (rdr w.params x dx sm sd si om oi10 vd qd t1 t2 t3 ++ ((c, tupOf cv) :: (ca, listOf cvs.toArray q) :: cl)), rfl, F10, hoC, news_sub N10 ?_, ?_, ⟨o11, rfl, hc11, hd11, .inr ⟨_, .tail _ (List.mem_append.mpr (.inr (.tail _ (.head _)))), rfl, _, rfl⟩⟩, oi10, kvs10, rfl, ?_, ?_⟩
      · walk_at "m sub"
      · intro p hp
        rcases List.mem_cons.mp hp with rfl | hp
        · exact offc _ (.head _)
        · rcases List.mem_append.mp hp with hp | hp
          · simp only [rdr, List.mem_cons, List.not_mem_nil, or_false] at hp
            rcases hp with rfl | rfl | rfl | rfl | rfl
            · exact offc (si, oi9) (.tail _ (.head _))
            · exact offc _ (.tail _ (.tail _ (.head _)))
            · exact offc _ (.tail _ (.tail _ (.tail _ (.head _))))
            · exact offc _ (.tail _ (.tail _ (.tail _ (.tail _ (.head _)))))
            · exact offc _ (.tail _ (.tail _ (.tail _ (.tail _ (.tail _ (.head _))))))
          · exact offc _ (.tail _ (List.mem_append.mpr (.inr hp)))
      · rw [runS_step _ _ _ _ _ hic]; exact hr10
      · rw [runS_step _ _ _ _ _ hic]; exact hI9.append (.cons _ _ .nil)
  · rintro D C oC mC h11 tk11 dr11 ts nw F11 hoC N11 hCD off11 ⟨oi11, kvs11, rfl, hr11, hI11⟩
    unfold FinS
    intro hne12 off12 F12 N12
    refine wpAny_assign_Name ?_
    walk1
    rename_i h13 F13 N13
    refine ⟨_, _, _, _, rfl, F13, N13, ?_, ?_⟩
    · intro p hp
      rcases List.mem_cons.mp hp with rfl | hp
      · exact Ne.symm hne12
      · exact (off12 p hp).1
    clear F13 N13
    intro h14 F14 N14
    dsimp only
    have neD : ∀ p ∈ (L' + 1, oc7) :: (rdr w.params x dx sm sd si om oi11 vd qd t1 t2 t3 ++ ((c, tupOf cv) :: (ca, listOf cvs.toArray q) :: cl)), p.1 ≠ D := fun p hp => (off12 p hp).2
    walk1
    refine comp_assign (h₀ := g') (L := L') ?_ rfl ?_ rfl ?_ ?_
    · with_unfolding_all rfl
    · decide
    · decide
    walk_at "m go"
    walk_at "m iter list"
    have eT : calls.take cvs.toArray.size = calls := by rw [List.size_toArray, hcs.1, List.take_length]
    rw [eT] at hr11 hI11
    intro h15 I15 own15 F15 N15 off15 ok15
    refine csrcP (nextOk_list rfl) self_list rfl F15 N15 off15 ok15 (fun i ys nw => ∃ oi kvs, nw = (D, lst ts) :: (L' + 1, oc7) :: (rdr w.params x dx sm sd si om oi vd qd t1 t2 t3 ++ ((c, tupOf cv) :: (ca, listOf cvs.toArray q) :: cl)) ∧ RdrOk w x dx sm sd si om oi vd kvs (dat (runS (modsOf ch) (dirsOf ch) ([], (runS (modsOf ch) (dirsOf ch) ([], [(Str.ofString "<string>", 1)]) calls).2) ((calls.map fun c => (none, c.2)).take i)).2) (modsOf ch) (dirsOf ch) ∧ IntsAre ys (runS (modsOf ch) (dirsOf ch) ([], (runS (modsOf ch) (dirsOf ch) ([], [(Str.ofString "<string>", 1)]) calls).2) ((calls.map fun c => (none, c.2)).take i)).1)
      ?_ ?_ ⟨oi11, _, rfl, hr11, .nil⟩ (fun i v1 v2 => ∃ (hi : i < calls.length) (u : Tok), v2 = .str calls[i].2 u ∧ PathIs v1 calls[i].1) ?_ rfl rfl rfl ?_ ?_
    · rw [List.size_toArray, hcs.1]; omega
    · rintro i ys nw ⟨_, _, _, _, hi⟩
      rw [hi.length, (runS_length _ _ _ _).1, List.length_take]; simp; omega
    · rintro i v ext ys nw ⟨hv, rfl⟩ ⟨oi', kvs', rfl, _, _⟩
      rw [List.getElem?_toArray] at hv
      have hi : i < calls.length := by have := (List.getElem?_eq_some_iff.mp hv).1; rw [hcs.1] at this; exact this
      obtain ⟨a, pv, u, e1, e2, e3⟩ := hcs.2 i hi
      rw [e1] at hv
      obtain rfl := Option.some.inj hv
      exact ⟨rfl, a, pv, _, rfl, .inr ⟨_, .tail _ (.tail _ (List.mem_append.mpr (.inr (.tail _ (.tail _ e2))))), rfl, _, rfl⟩, hi, u, rfl, e3⟩
    · rintro i v1 v2 ys nw own C9 oC9 D9 mC9 h9 tk9 dr9 hi ⟨hic, u9, rfl, hpi⟩ ⟨oi9, kvs9, rfl, hr9, hI9⟩ offc hown hCD9 hoC9 F9 N9 ok9
      have hic' : i < (calls.map fun c => ((none : Option Str), c.2)).length := by rw [List.length_map]; exact hic
      refine wpAny_pure ?_
      with_reducible refine ite_pos rfl ?_
      walk_at "m on"
      refine ask_call (q := qd) (t1 := t1) (t2 := t2) (t3 := t3) (others := (C9, oC9) :: (D9, lst ys) :: (D, lst ts) :: (L' + 1, oc7) :: (((c, tupOf cv) :: (ca, listOf cvs.toArray q) :: cl) ++ own)) (by assumption) F9 (by assumption) (news_sub N9 ?_) (by assumption) rfl rfl rfl hr9 ?_ ?_ ?_ ?_ (.inl ⟨rfl, rfl⟩) ?_ rfl ?_ ?_
      · walk_at "m sub"
      · have := (runS_length (modsOf ch) (dirsOf ch) ((calls.map fun c => ((none : Option Str), c.2)).take i) ([], (runS (modsOf ch) (dirsOf ch) ([], [(Str.ofString "<string>", 1)]) calls).2)).2
        have h2 := (runS_length (modsOf ch) (dirsOf ch) calls ([], [(Str.ofString "<string>", 1)])).2
        rw [List.length_take] at this
        simp only [List.length_cons, List.length_nil] at this h2
        omega
      · unfold dirsOf; rw [List.length_map]; exact Nat.lt_of_le_of_lt (List.length_filter_le _ _) (by omega)
      · intro y hy; obtain ⟨k, _, rfl⟩ := List.mem_map.mp hy; exact ent_len k
      · intro y hy; obtain ⟨k, _, rfl⟩ := List.mem_map.mp hy; exact ent_len k
      · k_room
      · intro p hp hm
        obtain ⟨o, ho⟩ := rdr_mem (oi := oi9) (P := w.params) (om := om) (vd := vd) (q := qd) (t1 := t1) (t2 := t2) (t3 := t3) _ hm
        have off := offc (p.1, o) (.tail _ (.tail _ (List.mem_append.mpr (.inl ho))))
        rcases List.mem_cons.mp hp with rfl | hp
        · exact off (.head _)
        · rcases List.mem_cons.mp hp with rfl | hp
          · exact off (.tail _ (.head _))
          · rcases List.mem_cons.mp hp with rfl | hp
            · obtain ⟨o2, ho2⟩ := rdr_mem (oi := oi11) (P := w.params) (om := om) (vd := vd) (q := qd) (t1 := t1) (t2 := t2) (t3 := t3) D hm
              exact neD _ (.tail _ (List.mem_append.mpr (.inl ho2))) rfl
            · rcases List.mem_cons.mp hp with rfl | hp
              · exact ap6' (L' + 1, oc) (.head _) hm
              · rcases List.mem_append.mp hp with hp | hp
                · exact ap6' p (.tail _ hp) hm
                · exact off (.tail _ (.tail _ (hown p hp)))
      · intro h10 tk10 dr10 oi10 kvs10 t10 F10 N10 hr10
        obtain ⟨o11, rfl, hc11, hd11, _⟩ := ok9
        refine ⟨h10, tk10, dr10, _, oC9, _, (D, lst ts) :: (L' + 1, oc7) :: (rdr w.params x dx sm sd si om oi10 vd qd t1 t2 t3 ++ ((c, tupOf cv) :: (ca, listOf cvs.toArray q) :: cl)), rfl, F10, hoC9, news_sub N10 ?_, ?_, ⟨o11, rfl, hc11, hd11, .inr ⟨_, .tail _ (.tail _ (List.mem_append.mpr (.inr (.tail _ (.head _))))), rfl, _, rfl⟩⟩, oi10, kvs10, rfl, ?_, ?_⟩
        · walk_at "m sub"
        · intro p hp
          rcases List.mem_cons.mp hp with rfl | hp
          · exact offc _ (.head _)
          · rcases List.mem_cons.mp hp with rfl | hp
            · exact offc _ (.tail _ (.head _))
            · rcases List.mem_append.mp hp with hp | hp
              · simp only [rdr, List.mem_cons, List.not_mem_nil, or_false] at hp
                rcases hp with rfl | rfl | rfl | rfl | rfl
                · exact offc (si, oi9) (.tail _ (.tail _ (.head _)))
                · exact offc _ (.tail _ (.tail _ (.tail _ (.head _))))
                · exact offc _ (.tail _ (.tail _ (.tail _ (.tail _ (.head _)))))
                · exact offc _ (.tail _ (.tail _ (.tail _ (.tail _ (.tail _ (.head _))))))
                · exact offc _ (.tail _ (.tail _ (.tail _ (.tail _ (.tail _ (.tail _ (.head _)))))))
              · exact offc _ (.tail _ (.tail _ (List.mem_append.mpr (.inr hp))))
        · rw [runS_step _ _ _ _ _ hic']; simpa using hr10
        · rw [runS_step _ _ _ _ _ hic']; simpa using hI9.append (.cons _ _ .nil)
    · rintro D2 C2 oC2 mC2 h21 tk21 dr21 us nw F21 hoC2 N21 hCD2 off21 ⟨oi21, kvs21, rfl, hr21, hI21⟩
      unfold FinS
      intro hne22 off22 F22 N22
      refine wpAny_assign_Name ?_
      walk1
      rename_i h23 F23 N23
      refine ⟨_, _, _, _, rfl, F23, N23, ?_, ?_⟩
      · intro p hp
        rcases List.mem_cons.mp hp with rfl | hp
        · exact Ne.symm hne22
        · exact (off22 p hp).1
      clear F23 N23
      intro h24 F24 N24
      dsimp only
      have neD2 : ∀ p ∈ (D, lst ts) :: (L' + 1, oc7) :: (rdr w.params x dx sm sd si om oi21 vd qd t1 t2 t3 ++ ((c, tupOf cv) :: (ca, listOf cvs.toArray q) :: cl)), p.1 ≠ D2 := fun p hp => (off22 p hp).2
      have eT2 : (calls.map fun c => ((none : Option Str), c.2)).take cvs.toArray.size = calls.map fun c => ((none : Option Str), c.2) := by rw [List.size_toArray, hcs.1]; exact List.take_of_length_le (by simp)
      rw [eT2] at hr21 hI21
      rw [hag] at hI21
      walk_at "m cmp"
      refine rc_lsts ⟨us, ⟨_, (N24 _ (.head _)).1, rfl, _, rfl⟩, hI21⟩ ⟨ts, ⟨_, (N24 _ (.tail _ (.head _))).1, rfl, _, rfl⟩, hI11⟩ ?_ _ _ _ _ ?_
      · show un' + 3 < 9900; replace hu : un' < 300 := hu; omega
      rw [beq_self_eq_true]
      walk_at "m cmp"
      refine comp_eval (h₀ := g') (L := L') rfl ?_ rfl ?_ ?_
      · decide
      · decide
      walk_at "m go"
      walk_at "m iter list"
      intro h25 I25 own25 F25 N25 off25 ok25
      refine csrc1 (nextOk_list rfl) self_list F25 N25 off25 ok25 (fun i ys => ys = []) ?_ ?_ rfl (fun _ _ _ h => h.2) rfl rfl ?_ ?_
      · rw [List.size_toArray, hI11.length, (runS_length _ _ _ _).1]; simp; omega
      · intro i ys hi; rw [hi]; exact Nat.zero_le _
      · rintro i v ys own C9 oC9 D9 mC9 h tk dr hi hP rfl offc hCD9 hoC9 F9 N9
        obtain ⟨u, rfl⟩ := IntsAre.int_at hI11 i v (by have := hP.1; rwa [List.getElem?_toArray] at this)
        refine wpAny_tests_one ?_
        walk_at "m cmp"
        exact ⟨_, _, _, oC9, _, rfl, by assumption, hoC9, by assumption, rfl⟩
      · rintro D5 h31 tk31 dr31 ys31 F31 N31 off31 rfl
        walk_at "m cmp"
        rename_i D6 h32 F32 N32 l32
        refine rc_lsts ⟨[], ⟨_, (N32 _ (.tail _ (.head _))).1, rfl, _, rfl⟩, .nil⟩ ⟨[], ⟨_, (N32 _ (.head _)).1, rfl, _, rfl⟩, .nil⟩ ?_ _ _ _ _ ?_
        · show un' + 3 < 9900; replace hu : un' < 300 := hu; omega
        rw [beq_self_eq_true]
        walk_at "m cmp"
        refine leaveAll (new := [(D, lst ts)]) (l := (c, tupOf cv) :: (ca, listOf cvs.toArray q) :: cl) hK N0 (by assumption) (news_sub (by assumption) (by walk_at "m sub")) ?_ fun kF kN kK kA => h _ _ _ _ _ kF kN hI11 kK fun b o e => kA b o e _ (.head _)
        intro p hp r hr
        rcases List.mem_singleton.mp hr with rfl
        exact neD _ (.tail _ (List.mem_append.mpr (.inr hp)))
end Mine
end
section
open PySem PySem.W PyProof.Rows PySem.Calls PySem.SeqAt PyProof.Rows.LCg
set_option Elab.async false
set_option maxRecDepth 100000
set_option maxHeartbeats 1000000
namespace Mine
theorem set_back_MAnsB : True := by w_top off; trivial
theorem strs_take : ∀ {vs : List Value} {xs : List Str}, StrsAre vs xs → ∀ n, StrsAre (vs.take n) (xs.take n)
  | _, _, .nil, n => by simp; exact .nil
  | _, _, .cons y t h, 0 => .nil
  | _, _, .cons y t h, n + 1 => .cons y t (strs_take h n)
theorem strs_len : ∀ {vs : List Value} {xs : List Str}, StrsAre vs xs → vs.length = xs.length
  | _, _, .nil => rfl
  | _, _, .cons _ _ h => by simp [strs_len h]
theorem strs_app : ∀ {vs ws : List Value} {xs ys : List Str}, StrsAre vs xs → StrsAre ws ys → StrsAre (vs ++ ws) (xs ++ ys)
  | _, _, _, _, .nil, h => h
  | _, _, _, _, .cons y t h, k => .cons y t (strs_app h k)
theorem strs_of : ∀ {vs : List Value} {xs : List Str}, StrList vs xs → StrsAre vs xs
  | [], [], _ => .nil
  | [], _ :: _, h => by have := h.1; simp at this
  | _ :: _, [], h => by have := h.1; simp at this
  | v :: vs, x :: xs, h => by
    obtain ⟨u, hu⟩ := h.2 0 (by simp)
    simp at hu
    subst hu
    refine .cons _ _ (strs_of ⟨by have := h.1; simpa using this, fun i hi => ?_⟩)
    obtain ⟨u2, hu2⟩ := h.2 (i + 1) (by simpa using hi)
    exact ⟨u2, by simpa using hu2⟩
theorem sum_take_le : ∀ (l : List Nat) (n : Nat), (l.take n).sum ≤ l.sum
  | [], n => by simp
  | x :: r, 0 => by simp
  | x :: r, n + 1 => by simp; exact sum_take_le r n
theorem weight_take {xs : List Str} (hw : (xs.map (·.length)).sum + xs.length < 1000) (n : Nat) : ((xs.take n).map (·.length)).sum + (xs.take n).length ≤ 1048576 := by
  have h1 := sum_take_le (xs.map (·.length)) n
  rw [List.map_take, List.length_take]
  omega
section
variable {prog : Program} {w : World} {A : Around} {E : Value → Shared → Prop} {s : Shared} {h₀ : Heap} {L l : Addr} {m : Str → Option Value} {news : Led} {value slice : PySem.Expr} {vs : List Value} {xs : List Str} {vl vu : Value} {y : Int} {q : Nat}
theorem slice_strs {Q : Value → Shared → Prop} (F : Fr h₀ L s.heap m) (N : News h₀ L s.heap news) (hm : (l, listOf vs.toArray q) ∈ news) (hv : StrsAre vs xs) (hy : 0 ≤ y) (hz : xs.length < 1000) (pl : IsPart vl none) (pu : IsPart vu (some y))
    (h : ∀ D ws h', Fr h₀ L h' m → News h₀ L h' ((D, listOf (List.toArray ws) 0) :: news) → (∀ p ∈ news, p.1 < D) → StrsAre ws (xs.take y.toNat) → Q (.ref D) { s with heap := h' })
    (hs : subscripted slice false (.ref l) (.ref s.heap.objs.size) = operate [.ref s.heap.objs.size, .ref l] (getItem (.ref l) (.ref s.heap.objs.size))) (ht : ∀ r, letTemporaryGo value (.ref l) r = pure ()) :
    wpAny (model prog w) A (subscriptTail value slice (.ref l) (.ref s.heap.objs.size)) Q E { s with heap := s.heap.push { cls := .type "slice", data := .fields #[vl, vu, .none] } } := by
  have e : sliceBounds none (some y) none vs.toArray.size = (((0 : Nat) : Int), ((min y.toNat vs.toArray.size : Nat) : Int), 1) := by
    simp only [sliceBounds, Option.getD_none, show (1 : Int) > 0 by decide, if_true, if_neg (show ¬ (y < 0) by omega)]
    congr 1
    congr 1
    omega
  refine kmk_slice F N (N.isList hm) pl pu (fun D h' F' N' l1 => h D (vs.take y.toNat) h' F' ?_ l1 (strs_take hv _)) hs ht (by rw [List.size_toArray, strs_len hv, sizeLine_eq]; omega)
  rw [kmk_pick_nat _ e] at N'
  have e2 : (List.take (min y.toNat vs.toArray.size - 0) (List.drop 0 vs.toArray.toList)).toArray = (vs.take y.toNat).toArray := by
    rw [List.drop_zero, Nat.sub_zero, List.size_toArray, List.toList_toArray, kmk_take_min]
  rw [e2] at N'
  exact N'
theorem join_strs {x : Str} {t : Tok} {n : Nat} {Q : Value → Shared → Prop} (N : News h₀ L s.heap news) (hm : (l, listOf vs.toArray q) ∈ news) (hv : StrsAre vs (xs.take n)) (hsep : x.length ≤ 16) (hw : (xs.map (·.length)).sum + xs.length < 1000)
    (h : ∀ t' k, Q (.str (Txt.join x (xs.take n)) t') { s with toks := k }) : wpAny (model prog w) A (call (.builtin "str.join") [.str x t, .ref l]) Q E s :=
  join_listW (N.isList hm) hv hsep (weight_take hw n) h
theorem in_strs {k : Str} {t : Tok} {Q : Value → Shared → Prop} (N : News h₀ L s.heap news) (hm : (l, listOf vs.toArray q) ∈ news) (hv : StrsAre vs xs) (h : Q (.bool (xs.any (· == k))) s) : wpAny (model prog w) A (compareOp .In (.str k t) (.ref l)) Q E s :=
  in_list_strs (N.isList hm) hv h
theorem ne_nil {a b : Addr} {qa qb : Nat} {Q : Value → Shared → Prop} (N : News h₀ L s.heap news) (ha : (a, listOf vs.toArray qa) ∈ news) (hb : (b, listOf #[] qb) ∈ news) (hu : A.units < cLine) (h : Q (.bool (!vs.isEmpty)) s) : wpAny (model prog w) A (compareOp .NotEq (.ref a) (.ref b)) Q E s := by
  cases vs with
  | nil => exact RcNeAt.lists (e := fun _ => true) (N.isList ha) (N.isList hb) rfl hu (fun j h1 => absurd h1 (by simp)) _ _ _ _ h
  | cons v r => exact RcNeAt.lists_lengths (N.isList ha) (N.isList hb) (by simp) hu _ _ _ _ h
theorem eq_nil {a b : Addr} {qa qb : Nat} {Q : Value → Shared → Prop} (N : News h₀ L s.heap news) (ha : (a, listOf vs.toArray qa) ∈ news) (hb : (b, listOf #[] qb) ∈ news) (hu : A.units < cLine) (h : Q (.bool vs.isEmpty) s) : wpAny (model prog w) A (compareOp .Eq (.ref a) (.ref b)) Q E s := by
  cases vs with
  | nil => exact RcAt.lists (e := fun _ => true) (N.isList ha) (N.isList hb) rfl hu (fun j h1 => absurd h1 (by simp)) _ _ _ _ h
  | cons v r => exact RcAt.lists_lengths (N.isList ha) (N.isList hb) (by simp) hu _ _ _ _ h
end
theorem range_ok {n : Nat} (h : n < 1000) : Builtin.Range.small 0 (n : Int) 1 = true ∧ Builtin.Range.rangeSize 0 (n : Int) 1 = ((n : Nat) : Int) := by
  have h2 : Builtin.Range.rangeSize 0 (n : Int) 1 = ((n : Nat) : Int) := by
    unfold Builtin.Range.rangeSize
    rw [if_pos (by decide)]
    split <;> omega
  refine ⟨?_, h2⟩
  unfold Builtin.Range.small
  simp only [h2]
  unfold Builtin.Range.rangeFitsLong
  simp
  omega
theorem list_take_snoc {n : Nat} (f : Nat → Str) : (List.range (n + 1)).map f = (List.range n).map f ++ [f n] := by rw [List.range_succ, List.map_append]; rfl
section
variable {prog : Program} {w : World} {A : Around} {E : Value → Shared → Prop} {s : Shared} {h₀ : Heap} {L a : Addr} {m : Str → Option Value} {news news' : Led} {xs : List Value} {n : Nat} {x : Value}
theorem append_l {Q : Value → Shared → Prop} (F : Fr h₀ L s.heap m) (N : News h₀ L s.heap news) (U : Upd a (listOf xs.toArray n) (listOf (xs ++ [x]).toArray (n + 1)) news news') (hlen : xs.length < 1000)
    (h : ∀ h', Fr h₀ L h' m → News h₀ L h' news' → Q .none { s with heap := h' }) : wpAny (model prog w) A (call (.builtin "list.append") [.ref a, x]) Q E s := by
  rw [show (xs ++ [x]).toArray = xs.toArray.push x by simp] at U
  exact append_K F N U h (by rw [List.size_toArray, sizeLine_eq]; omega)
end
theorem filter_step {ch : List Int} {i : Nat} (p : Str → Bool) (h : i < ch.length) : ((ch.take (i + 1)).map ent).filter p = ((ch.take i).map ent).filter p ++ if p (ent ch[i]) = true then [ent ch[i]] else [] := by
  rw [List.take_add_one, List.getElem?_eq_getElem h, List.map_append, List.filter_append]
  congr 1
  simp only [Option.toList_some, List.map_cons, List.map_nil, List.filter_cons, List.filter_nil]
end Mine
end
section
open PySem PySem.W PyProof.Rows PySem.Calls
open PyProof.Rows.LCg (lst NsObj SrcAt)
open PySem.SeqAt
set_option Elab.async false
set_option maxRecDepth 100000
set_option maxHeartbeats 8000000
namespace Mine
theorem set_back_MAns : True := by w_top off; trivial
theorem words_MAns : True := by
  k_with_none
  k_with "m s0" => ((fail_if_success (with_reducible show WStep _ _ _ _ _ _)); (fail_if_success (with_reducible show wpAny _ _ (eval (Expr.ListComp _ _ _ _) _) _ _ _)); (fail_if_success (with_reducible show wpAny _ _ (exec (Stmt.For _ _ _ _ _) _) _ _ _)); (fail_if_success (with_reducible show wpAny _ _ (exec (Stmt.Assign _ (Expr.ListComp _ _ _ _) _ _) _) _ _ _)))
  k_with "m get" => ((repeat (first | assumption | exact get_eq | refine get_ne (by decide) ?_ | rfl)))
  k_with "eval Name" => (((with_reducible show wpAny _ _ (eval (Expr.Name _ _) (envOf _ _ _ _ _)) _ _ _); k_dflt (refine' ld ?z9k1 ?z9k2 ?_; (case z9k1 => k_asm); (case z9k2 => walk_at "m get"); k_whole)))
  k_with "m go" => ((repeat ((fail_if_success (with_reducible show WStep _ _ _ _ _ _)); first | walk1 | (dsimp only; walk1))))
  k_with "subscriptTail" => (((with_reducible show wpAny _ _ (subscriptTail _ _ (Value.ref _) (Value.int _ _)) _ _ _); (refine' item_h ?z9k1 ?z9k2 ?z9k3 ?z9k4 ?_; (case z9k1 => assumption); (case z9k2 => omega); (case z9k3 => omega); (case z9k4 => assumption); k_whole)))
  k_with "setItem ref int" => ((((with_reducible show wpAny _ _ (setItem (Value.ref _) (Value.int _ _) _) _ _ _); (refine' setItem_h ?z9k1 ?z9k2 ?z9k3 ?z9k4 ?z9k5 ?z9k6 ?_; (case z9k1 => assumption); (case z9k2 => assumption); (case z9k3 => assumption); (case z9k4 => omega); (case z9k5 => assumption); (case z9k6 => omega); k_whole); intro h' F' N'); revert h' F' N'; intro _ _ _))
  k_with "call builtin:len" => (((with_reducible show wpAny _ _ (call (Value.builtin _) [Value.ref _]) _ _ _); (refine' len_h ?z9k1 ?z9k2 ?_; (case z9k1 => assumption); (case z9k2 => first | assumption | (simp only [List.length_append, List.length_cons, List.length_nil]; omega)); k_whole)))
  k_with "call builtin:list.append" => ((((with_reducible show wpAny _ _ (call (Value.builtin _) [Value.ref _, _]) _ _ _); (refine' append_h ?z9k1 ?z9k2 ?z9k3 ?z9k4 ?_; (case z9k1 => assumption); (case z9k2 => assumption); (case z9k3 => assumption); (case z9k4 => omega); k_whole); intro h' F' N'); revert h' F' N'; intro _ _ _))
  k_with "call builtin:list.pop" => ((((with_reducible show wpAny _ _ (call (Value.builtin _) [Value.ref _]) _ _ _); (refine' pop_h ?z9k1 ?z9k2 ?z9k3 ?z9k4 ?_; (case z9k1 => assumption); (case z9k2 => assumption); (case z9k3 => assumption); (case z9k4 => omega); k_whole); intro h' F' N'); revert h' F' N'; intro _ _ _))
  k_with "eval Name" => (((with_reducible show wpAny _ _ (eval (Expr.Name _ _) (compEnvC _ _ _ _)) _ _ _); k_dflt (refine' PySem.W.LCgL.ld_own ?z9k1 ?z9k2 ?z9k3 ?z9k4 ?_; (case z9k1 => k_asm); (case z9k2 => exact List.Mem.head _); (case z9k3 => assumption); (case z9k4 => walk_at "m get"); k_whole)))
  k_with "m mem" => (first | assumption | exact List.Mem.head _ | exact List.mem_append.mpr (Or.inl (by assumption)) | exact List.mem_append.mpr (Or.inr (by assumption)) | (refine List.Mem.tail _ ?_; walk_at "m mem"))
  k_with "subscriptTail" => (((with_reducible show wpAny _ _ (subscriptTail _ _ (Value.ref _) (Value.int _ _)) _ _ _); (refine' item_m ?z9k1 ?z9k2 ?z9k3 ?z9k4 ?z9k5 ?_; (case z9k1 => assumption); (case z9k5 => assumption); (case z9k2 => walk_at "m mem"); (case z9k3 => omega); (case z9k4 => omega); k_whole)))
  k_with "m sub" => ((intro q9 hq9; simp only [List.cons_append, List.nil_append, List.append_assoc, List.mem_cons, List.mem_append, List.not_mem_nil, or_false, false_or] at hq9 ⊢; grind))
  k_with "truthy ref" => ((k_dflt (refine' truthy_D ?z9N ?z9d ?z9m ?z9s ?z9f ?_; (case z9N => assumption); (case z9d => assumption); (case z9m => walk_at "m mem"); (case z9s => assumption); (case z9f => first | assumption | decide | omega); k_whole)))
  k_with "m enterC2" => ((   (case kA => exact rfl); (case kF => assumption); (case kK => assumption); (case k1 => assumption); (case k2 => assumption); (case k3 => assumption); (case k4 => assumption); (case k5 => assumption);   (case k6 => k_is); (case k7 => k_is); (case k8 => k_room); (case k9 => first | exact BindsTo.of_eq rfl | exact binds_K (by k_in) rfl (by k_is) rfl rfl rfl); (case kB => exact rfl); (case kD => decide +kernel); (case c2 => exact rfl); (case c3 => exact rfl); (case c4 => exact rfl)))
  k_with "m iter list" => ((refine' iter_listN ?z9kF ?z9kN ?z9kS ?_; (case z9kF => assumption); (case z9kN => assumption); (case z9kS => walk_at "m mem")))
  k_with "truthy ref" => ((k_dflt (refine' truthy_L ?z9N ?z9m ?z9f ?_; (case z9N => assumption); (case z9m => walk_at "m mem"); (case z9f => first | assumption | omega); k_whole)))
  k_with "call type:set" => ((((with_reducible show wpAny _ _ (call (Value.type _) [Value.ref _]) _ _ _); k_dflt (refine' set_new_strsN ?z9F ?z9N ?z9m ?z9v ?z9n ?z9hh ?z9f ?_; (case z9F => assumption); (case z9N => assumption); (case z9m => walk_at "m mem"); (case z9v => assumption); (case z9n => assumption); (case z9hh => exact rfl); (case z9f => first | assumption | omega); k_whole); intro h' tk' D' o' F' N' hS' l1'; (try k_lt l1')); revert h' tk' D' o' F' N' hS' l1'; intro _ _ _ _ _ _ _ _))
  k_with "call type:set nil nil" => (((k_dflt (refine' set_new_0 ?z9F ?z9N ?_; (case z9F => assumption); (case z9N => assumption); k_whole); intro h' D' o' F' N' hS' l1'; (try k_lt l1')); revert h' D' o' F' N' hS' l1'; intro _ _ _ _ _ _ _))
  k_with "m run" => ((repeat' (walk_at "m s0"; first | walk1 | (dsimp only; walk1) | (with_reducible refine ite_neg Bool.false_ne_true ?_) | (with_reducible refine ite_pos rfl ?_))))
  k_with "getItem ref str" => (((k_dflt (refine' getItem_D ?z9N ?z9d ?z9f ?z9m ?z9s ?z9l ?_; (case z9N => assumption); (case z9d => assumption); (case z9f => assumption); (case z9m => walk_at "m mem"); (case z9s => assumption); (case z9l => assumption); k_whole); intro v' hv'); revert v' hv'; intro _ _))
  k_with "compareOp In str ref" => ((k_dflt (refine' in_set ?z9N ?z9m ?z9d ?_; (case z9N => assumption); (case z9d => assumption); (case z9m => walk_at "m mem"); k_whole)))
  k_with "setItem ref str" => (((k_dflt (refine' setItem_K PyProof.V.same_str (strKind_is _ _ _ _) ?z9v ?z9F ?z9N ?z9U ?z9d ?z9f ?_ ?z9z; (case z9F => assumption); (case z9N => assumption); (case z9U => k_updF); (case z9d => assumption); (case z9f => assumption); (case z9z => (rw [sizeLine_eq]; omega)); (case z9v => k_flat)); intro h' o' F' N' hd' hf'; (try dsimp only at N')); revert h' o' F' N' hd' hf'; intro _ _ _ _ _ _))
  k_with "binaryOp Add str str" => (((refine PyProof.Rows.add_str (hsz := ?z9hsz) ?_); (case z9hsz => (have e1 : (Str.ofString ".").length = 1 := by decide); (have e2 : (Str.ofString "/").length = 1 := by decide); (have e3 : (Str.ofString "/.").length = 2 := by decide); rw [sizeLine_eq]; omega); intro _ _))
  k_with "eval Name" => (((with_reducible show wpAny _ _ (eval (Expr.Name _ _) (compEnvC _ _ _ _)) _ _ _); k_dflt (refine' PySem.W.LCgL.ld_own ?z9k1 ?z9k2 ?z9k3 ?z9k4 ?_; (case z9k1 => k_asm); (case z9k2 => walk_at "m mem"); (case z9k3 => assumption); (case z9k4 => walk_at "m get"); k_whole)))
  k_with "m on" => ((repeat' (walk_at "m s0"; (fail_if_success (with_reducible show wpAny _ _ (call (Value.ref _) _ _) _ _ _)); first | walk1 | (dsimp only; walk1) | (with_reducible refine ite_neg Bool.false_ne_true ?_) | (with_reducible refine ite_pos rfl ?_))))
  k_with "m cmp" => ((repeat' (walk_at "m s0"; (fail_if_success (with_reducible show wpAny _ _ (call (Value.ref _) _ _) _ _ _)); (fail_if_success (with_reducible show wpAny _ _ (compareOp _ (Value.ref _) (Value.ref _)) _ _ _)); first | walk1 | (dsimp only; walk1) | (with_reducible refine ite_neg Bool.false_ne_true ?_) | (with_reducible refine ite_pos rfl ?_))))
  k_with "eval Name" => (((with_reducible show wpAny _ _ (eval (Expr.Name _ _) (envOfC _ _ _ _ _)) _ _ _); k_dflt (refine' nameX_L ?z9F ?z9v ?_ ?z9a ?z9b; (case z9F => k_asm); (case z9a => rfl); (case z9b => rfl); (case z9v => walk_at "m get"); k_whole)))
  k_with "callWith" => (first | with_reducible refine PyProof.Rows.callWith_method0 ?_ | with_reducible refine PyProof.Rows.callWith_builtin1 ?_ | with_reducible refine PyProof.Rows.callWith_method1 ?_)
  k_with "subscriptTail Name Slice ref ref" => (((k_here; (with_reducible show wpAny _ _ (subscriptTail _ (PySem.Expr.Slice _ _ none _) (Value.ref _) (Value.ref _)) _ _ _); k_dflt (refine' slice_strs ?z9F ?z9N ?z9m ?z9v ?z9y ?z9z ?z9p ?z9q ?_ ?z9s ?z9t; (case z9F => assumption); (case z9N => assumption); (case z9m => walk_at "m mem"); (case z9v => assumption); (case z9p => exact IsPart.none); (case z9q => exact IsPart.int _ _); (case z9y => omega); (case z9z => omega); (case z9s => with_unfolding_all rfl); (case z9t => kmk_pure)); intro D' ws' h' F' N' l1 hI'; (try k_lt l1)); revert D' ws' h' F' N' l1 hI'; intro _ _ _ _ _ _ _))
  k_with "call builtin:str.join" => (((k_here; (with_reducible show wpAny _ _ (call (Value.builtin _) [Value.str _ _, Value.ref _]) _ _ _); k_dflt (refine' join_strs ?z9N ?z9m ?z9v ?z9z ?z9y ?_; (case z9N => assumption); (case z9v => assumption); (case z9m => walk_at "m mem"); (case z9z => decide); (case z9y => assumption)); intro t' k'); revert t' k'; intro _ _))
  k_with "compareOp In str ref" => ((k_here; k_dflt (refine' in_strs ?z9N ?z9m ?z9v ?_; (case z9N => assumption); (case z9v => assumption); (case z9m => walk_at "m mem"))))
  k_with "call builtin:len" => (((with_reducible show wpAny _ _ (call (Value.builtin _) [Value.ref _]) _ _ _); (refine' len_m ?z9k1 ?z9k2 ?z9k3 ?_; (case z9k1 => assumption); (case z9k3 => assumption); (case z9k2 => walk_at "m mem"); k_whole)))
  k_with "call builtin:str.split" => (((k_here; (with_reducible show wpAny _ _ (call (Value.builtin "str.split") _) _ _ _); k_dflt (refine' KSpl.split1 ?z9F ?z9N ?z9y ?_ ?z9z; (case z9F => assumption); (case z9N => assumption); (case z9y => decide); (case z9z => (rw [sizeLine_eq]; omega))); intro D' l' h' k' e' a' F' N' l1; (try k_lt l1)); revert D' l' h' k' e' a' F' N' l1; intro _ _ _ _ _ _ _ _ _))
  k_with "call builtin:list.append" => (((k_here; (with_reducible show wpAny _ _ (call (Value.builtin _) [Value.ref _, _]) _ _ _); k_dflt (refine' append_K ?z9F ?z9N ?z9U ?_ ?z9z; (case z9F => k_asm); (case z9N => k_asm); (case z9U => k_upd); (case z9z => (rw [List.size_toArray, sizeLine_eq]; omega))); intro h' F' N'; (try k_sweep)); revert h' F' N'; intro _ _ _))
  trivial
noncomputable def aboveOf (fn : Option Str) (md : Str) : List Str := ((List.range (Txt.split md (Str.ofString ".")).length).map fun k => Txt.join (Str.ofString ".") ((Txt.split md (Str.ofString ".")).take (k + 1))) ++
  match fn with | none => [] | some f => (List.range (Txt.split f (Str.ofString "/")).length).map fun k => Txt.join (Str.ofString "/") ((Txt.split f (Str.ofString "/")).take k)
noncomputable def ansOne (ch : List Int) (c : Option Str × Str) : Int := if c.1.isNone || !((ch.map ent).filter fun e => (aboveOf c.1 c.2).any (· == e)).isEmpty then 1 else 0
noncomputable def Small (xs : List Str) : Prop := (xs.map (·.length)).sum + xs.length < 1000 ∧ xs.length ≠ 0
noncomputable def CallSmall (c : Option Str × Str) : Prop := c.2.length < 1000 ∧ Small (Txt.split c.2 (Str.ofString ".")) ∧ ∀ f, c.1 = some f → f.length < 1000 ∧ Small (Txt.split f (Str.ofString "/"))
theorem len_m {prog : Program} {w : World} {A : Around} {E : Value → Shared → Prop} {s : Shared} {h₀ : Heap} {L a : Addr} {news : Led} {vs : List Value} {n : Nat} {Q : Value → Shared → Prop} (N : News h₀ L s.heap news) (hm : (a, listOf vs.toArray n) ∈ news) (hlen : vs.length < 1000) (h : Q (.int vs.length (s.toks + 1)) { s with toks := s.toks + 1 + 1 }) : wpAny (model prog w) A (call (.builtin "len") [.ref a]) Q E s := by
  refine len_list (N.isList hm) (by rw [List.size_toArray]; omega) ?_
  rw [List.size_toArray]
  exact h
/-- the calls in a heap -/
noncomputable def CallsAt (h : Heap) (cvs : List Value) (calls : List (Option Str × Str)) : Prop :=
  cvs.length = calls.length ∧ ∀ i (hi : i < calls.length), ∃ a pv u, cvs[i]? = some (.ref a) ∧ h.IsTuple a #[pv, .str calls[i].2 u] ∧ PathIs pv calls[i].1
theorem CallsAt.kept {h g : Heap} {c : Addr} {cv cvs : List Value} {ch : List Int} {calls : List (Option Str × Str)} (hcs : CallsAt h cvs calls) (hc : IntsAre cv ch) (ht : h.get? c = some (tupOf cv)) (hK : Kept h g [c]) : CallsAt g cvs calls := by
  refine ⟨hcs.1, fun i hi => ?_⟩
  obtain ⟨a, pv, u, e1, ⟨o, ho, hcls, n, hd⟩, e3⟩ := hcs.2 i hi
  refine ⟨a, pv, u, e1, ⟨o, hK a o ho ?_, hcls, n, hd⟩, e3⟩
  intro hm
  rcases List.mem_singleton.mp hm with rfl
  rw [ht] at ho
  cases ho
  have e : cv = [pv, .str calls[i].2 u] := by have := congrArg (fun d => match d with | Data.seq x _ => x.toList | _ => []) hd; simpa using this
  subst e
  obtain ⟨t, ht2⟩ := hc.int_at 1 _ rfl
  cases ht2
theorem answers_K {c ca : Addr} {cv cvs : List Value} {w : World} {A A₀ : Around} {s : Shared} {h₀ base : Heap} {outer : List Env} {L : Addr} {m mg mb : Str → Option Value} {mean : ExcName → Option Value} {p : Program} {loose : List Str} {env : Env} {R : Result → Shared → Prop}
 (B : Below A₀ base outer h₀) (F : Fr h₀ L s.heap m) (X₀ : (Mine.hd.heap_1 w.params).In h₀) (N : News h₀ L s.heap ([(c, tupOf cv)])) (T : Top p loose mean mg mb h₀) (hA : A.frames = some (env :: outer)) (hf : env.frame = some L) (hke : env.scope.kind = .function) {calls : List (Option Str × Str)} {ch : List Int} (hc : IntsAre cv ch) (hk : ∀ k ∈ ch, 0 ≤ k ∧ k < 4) (hl : ch.length < 90) (hca : s.heap.IsList ca cvs.toArray) (hcs : CallsAt s.heap cvs calls) (hcl : calls.length < 100) (hsm : ∀ c ∈ calls, CallSmall c)
 (hd : A.depth < 700) (hu : A.units < 300) (hh : A.handled = none)
 (h : ∀ h' tk dr D ts n, Fr h₀ L h' m → News h₀ L h' [(D, listOf ts.toArray n)] → IntsAre ts (calls.map (ansOne ch)) → (∀ b o, s.heap.get? b = some o → h'.get? b = some o) → (∀ b o, s.heap.get? b = some o → b ≠ D) → R (.ok (.ret (.ref D))) { s with heap := h', toks := tk, drawn := dr }) :
 codeAny (model PySem.Challenge.rw_nq0047_02.row.prog w) A (.call (.ref 133) ⟨[.ref c, .ref ca], []⟩) R s := by
  have N0 : ∀ p ∈ [(c, tupOf cv)], s.heap.get? p.1 = some p.2 := fun p hp => (N p hp).1
  obtain ⟨hdl', dep', frs', gs', un'⟩ := A
  replace hA : frs' = some (env :: outer) := hA
  replace hh : hdl' = none := hh
  subst hA hh
  replace hd : dep' < _ := hd
  revert X₀
  k_fill
  intro X₀
  refine' code_defCK (binds := [(Str.ofString "chosen", .ref c), (Str.ofString "calls", .ref ca)]) ?k1 ?k2 ?k3 ?k4 ?k5 ?kA ?kF ?kK ?k6 ?k7 ?k8 ?k9 ?kB ?kD ?_ ?c2 ?c3 ?c4
  walk_at "m enterC2"
  intro g' L' h' tk' cells' FG' F' N' Y' B' X' T' lK hK
  have hY := CellsAre.three Y'
  obtain ⟨oS, oA, oP, hE, hS, hA', hP⟩ := hY
  subst hE
  replace hcs : CallsAt g' cvs calls := hcs.kept hc (N0 _ (.head _)) hK
  replace hca : g'.IsList ca cvs.toArray := by
    obtain ⟨o, ho, hcls, n, hd⟩ := hca
    refine ⟨o, hK _ _ ho ?_, hcls, n, hd⟩
    intro hm
    rcases List.mem_singleton.mp hm with rfl
    rw [N0 _ (.head _)] at ho
    cases ho; exact absurd hcls (by simp)
  have lc : @LT.lt Nat _ c L' := lK _ (.head _)
  clear Y' F N B X₀ T
  refine wpAny_noRaise ?_
  k_fold
  replace N' : News g' L' h' [(L' + 1 + 1 + 1, oS), (L' + 1 + 1, oA), (L' + 1, oP), (c, tupOf cv)] := N'
  walk_at "m on"
  refine wpAny_call ?_
  refine entries_K (by assumption) (by assumption) (by assumption) (news_sub (l' := [(c, tupOf cv)]) N' (by walk_at "m sub")) (by assumption) rfl rfl rfl hc hk (by omega) ?_ rfl ?_
  · k_room
  intro h1 tk1 dr1 De es F1 N1 hes kp1 ap1 ne1
  have k1 := (Kept.whole (l := [(c, tupOf cv)]) kp1 (news_sub N' (by walk_at "m sub")) (news_tail N1)).all
  have a1 := Apart.led ((ap1.sub (new' := [(De, lst es)]) (by simp)).whole (l := [(c, tupOf cv)]) (by simpa using ne1)) N'
  have N1' := news_cons (news_left (a := [(De, lst es)]) N1) (N'.grown k1)
  clear N1 N' kp1 ap1
  have a11 : L' + 1 + 1 + 1 ≠ De := a1 _ (.head _) _ (.head _)
  have a12 : L' + 1 + 1 ≠ De := a1 _ (.tail _ (.head _)) _ (.head _)
  have a13 : L' + 1 ≠ De := a1 _ (.tail _ (.tail _ (.head _))) _ (.head _)
  have a14 : c ≠ De := ne1
  clear a1 k1
  walk_at "m on"
  rename_i Da h3 l3 h2 F2 N2
  refine wpAny_For ?_
  walk_at "m go"
  refine iter_list (its := cvs.toArray) (by assumption) (by assumption) (.inl hca) ?_
  intro h5 I5 own5 F5 N5 off5 ok5
  refine for_walk (nextOk_list rfl) (fun i m₁ news₁ => ∃ oS oA oP vS vA vP ys n, news₁ = [(Da, listOf ys.toArray n), (De, lst es), (L' + 1 + 1 + 1, oS), (L' + 1 + 1, oA), (L' + 1, oP), (c, tupOf cv)] ∧ oS.data = .cell vS ∧ oA.data = .cell vA ∧ oP.data = .cell vP ∧ IntsAre ys ((calls.take i).map (ansOne ch)) ∧
      m₁ (Str.ofString "entries") = some (.ref De) ∧ m₁ (Str.ofString "answers") = some (.ref Da)) F5 N5 off5 ok5 ⟨oS, oA, oP, _, _, _, [], 0, rfl, hS, hA', hP, .nil, rfl, rfl⟩ ?_ ?_ (fun _ _ q => q)
  · clear hS hA' hP
    rintro i v m₁ nw own' h2 tk2 dr2 ext hi ⟨hiv, rfl⟩ ⟨oS, oA, oP, vS, vA, vP, ys, n, rfl, hS, hA', hP, hI, hm1, hm2⟩ off2 hext F2 N2 ok2
    k_sweep
    obtain ⟨oI, rfl, hIc, hId, _⟩ := ok2
    have off31 : I5 ≠ Da := fun e => off2 _ (.head _) (e ▸ .head _)
    have off32 : I5 ≠ De := fun e => off2 _ (.tail _ (.head _)) (e ▸ .head _)
    have off33 : I5 ≠ L' + 1 + 1 + 1 := fun e => off2 _ (.tail _ (.tail _ (.head _))) (e ▸ .head _)
    have off34 : I5 ≠ L' + 1 + 1 := fun e => off2 _ (.tail _ (.tail _ (.tail _ (.head _)))) (e ▸ .head _)
    have off35 : I5 ≠ L' + 1 := fun e => off2 _ (.tail _ (.tail _ (.tail _ (.tail _ (.head _))))) (e ▸ .head _)
    have off36 : I5 ≠ c := fun e => off2 _ (.tail _ (.tail _ (.tail _ (.tail _ (.tail _ (.head _)))))) (e ▸ .head _)
    clear off2
    have hic : i < calls.length := by rw [List.size_toArray, hcs.1] at hi; exact hi
    obtain ⟨a, pv, u, e1, e2, e3⟩ := hcs.2 i hic
    rw [List.getElem?_toArray, e1] at hiv
    obtain rfl := Option.some.inj hiv
    replace N2 : News g' L' h2 [(Da, listOf ys.toArray n), (De, lst es), (L' + 1 + 1 + 1, oS), (L' + 1 + 1, oA), (L' + 1, oP), (c, tupOf cv), (I5, oI)] := N2
    obtain ⟨sm0, sm1, sm2⟩ := hsm calls[i] (List.getElem_mem hic)
    have step : (calls.take (i + 1)).map (ansOne ch) = (calls.take i).map (ansOne ch) ++ [ansOne ch calls[i]] := by rw [List.take_add_one, List.getElem?_eq_getElem hic, List.map_append]; rfl
    generalize hci : calls[i] = ci at e2 e3 sm0 sm1 sm2 step
    obtain ⟨fn, md⟩ := ci
    dsimp only at e2 e3 sm0 sm1 sm2
    have hyl : ys.length < 1000 := by rw [hI.length, List.length_map, List.length_take]; omega
    have fin : ∀ (h9 : Heap) (tk : Nat) (dr : Drawn) (m9 : Str → Option Value) (oS oA oP : Obj) (vS vA vP : Option Value) (v : Int) (t : Tok) (n' : Nat), Fr g' L' h9 m9 → News g' L' h9 [(Da, listOf (ys.toArray.push (Value.int v t)) n'), (De, lst es), (L' + 1 + 1 + 1, oS), (L' + 1 + 1, oA), (L' + 1, oP), (c, tupOf cv), (I5, oI)] → oS.data = .cell vS → oA.data = .cell vA → oP.data = .cell vP →
        v = ansOne ch (fn, md) → m9 (Str.ofString "entries") = some (.ref De) → m9 (Str.ofString "answers") = some (.ref Da) → ∀ sF : Shared, { s with heap := h9, toks := tk, drawn := dr } = { sF with heap := h9, toks := tk, drawn := dr } → FEnd g' L' [I5] (LOk g' I5 ca cvs.toArray) (fun i m₁ news₁ => ∃ oS oA oP vS vA vP ys n, news₁ = [(Da, listOf ys.toArray n), (De, lst es), (L' + 1 + 1 + 1, oS), (L' + 1 + 1, oA), (L' + 1, oP), (c, tupOf cv)] ∧ oS.data = .cell vS ∧ oA.data = .cell vA ∧ oP.data = .cell vP ∧ IntsAre ys ((calls.take i).map (ansOne ch)) ∧
      m₁ (Str.ofString "entries") = some (.ref De) ∧ m₁ (Str.ofString "answers") = some (.ref Da)) sF i { s with heap := h9, toks := tk, drawn := dr } := by
      intro h9 tk dr m9 oS oA oP vS vA vP v t n' F9 N9 d1 d2 d3 hv e1 e2 sF hsF
      rw [show ys.toArray.push (Value.int v t) = (ys ++ [Value.int v t]).toArray by simp] at N9
      refine ⟨h9, tk, dr, m9, [(I5, oI)], [(Da, listOf (ys ++ [Value.int v t]).toArray n'), (De, lst es), (L' + 1 + 1 + 1, oS), (L' + 1 + 1, oA), (L' + 1, oP), (c, tupOf cv)], hsF, F9, N9, ?_, ⟨oI, rfl, hIc, hId, .inl hca⟩, oS, oA, oP, vS, vA, vP, _, _, rfl, d1, d2, d3, ?_, e1, e2⟩
      · intro p hp hm
        have e := List.mem_singleton.mp hm
        simp only [List.mem_cons, List.not_mem_nil, or_false] at hp
        rcases hp with rfl | rfl | rfl | rfl | rfl | rfl
        · exact off31 e.symm
        · exact off32 e.symm
        · exact off33 e.symm
        · exact off34 e.symm
        · exact off35 e.symm
        · exact off36 e.symm
      · rw [step, ← hv]
        exact hI.append (.cons _ _ .nil)
    refine assign_pair rfl F2 N2 (.inl e2) fun h3 F3 N3 => ?_
    k_sweep
    walk_at "m on"
    rename_i D9 l9 h99 k9 e9 a9 l99 h9 o9 F9 N9 d9
    rw [e9] at a9
    have hl9 : (strValues l9).length < 1000 := by have := sm1.1; rw [strs_len a9]; omega
    have hl9' : (Txt.split md (Str.ofString ".")).length < 1000 := by have := sm1.1; omega
    have hw9 := sm1.1
    generalize hxs : Txt.split md (Str.ofString ".") = xs at a9 hl9' hw9
    refine comp_eval (h₀ := g') (L := L') rfl ?_ rfl ?_ ?_
    · decide
    · decide
    walk_at "m on"
    rename_i hrg Frg Nrg _
    rw [strs_len a9] at hrg
    refine iter_range (n := xs.length) Frg Nrg hrg (range_ok hl9').1 (range_ok hl9').2 ?_
    intro h12 I12 own12 F12 N12 off12 ok12
    k_sweep
    refine csrc1 (nextOk_range rfl) self_range F12 N12 off12 ok12 (fun i ys => StrList ys ((List.range i).map fun k => Txt.join (Str.ofString ".") (xs.take (k + 1)))) ?_ ?_ ?_ (fun _ _ _ h => h.2) rfl rfl ?_ ?_
    · omega
    · intro i ys hi; rw [hi.1]; simp
    · exact StrList.nil
    · intro i v ys own C oC D mC h tk dr hi hP hJ offc hCD hoC F3 N3
      k_sweep
      obtain ⟨⟨t3, rfl⟩, _⟩ := hP
      refine wpAny_pure ?_
      with_reducible refine ite_pos rfl ?_
      walk_at "m run"
      refine ⟨_, _, _, oC, _, rfl, by assumption, hoC, news_tail (by assumption), ?_⟩
      rw [list_take_snoc]
      have e5 : ((0 : Int) + (i : Nat) + 1).toNat = i + 1 := by omega
      rw [e5]
      exact hJ.snoc _ _
    · intro D13 h13 tk13 dr13 ys13 F13 N13 off13 hJ13
      k_sweep
      simp only [List.forall_mem_cons] at off13
      obtain ⟨f1, f2, f3, f4, f5, f6, f7, f8, _⟩ := off13
      have hJ14 := strs_of hJ13
      walk_at "m on"
      rename_i h15 o15 F15 N15 d15
      rcases e3 with ⟨rfl, rfl⟩ | ⟨f, uf, rfl, rfl⟩
      · walk_at "m on"
        rename_i h66 F66 N66
        exact fin _ _ _ _ _ _ _ _ _ _ _ _ _ F66 (news_tail (news_tail N66)) hS d15 d9 rfl (by walk_at "m get") (by walk_at "m get") _ rfl
      · obtain ⟨sf0, sf1⟩ := sm2 f rfl
        walk_at "m on"
        rename_i D19 l19 h199 k19 e19 a19 l199 h19 o19 F19 N19 d19
        rw [e19] at a19
        have l199n : D13 ≠ D19 := Nat.ne_of_lt l199.1
        have hl19 : (strValues l19).length < 1000 := by have := sf1.1; rw [strs_len a19]; omega
        have hl19' : (Txt.split f (Str.ofString "/")).length < 1000 := by have := sf1.1; omega
        have hw19 := sf1.1
        generalize hzs : Txt.split f (Str.ofString "/") = zs at a19 hl19' hw19
        refine comp_eval (h₀ := g') (L := L') rfl ?_ rfl ?_ ?_
        · decide
        · decide
        walk_at "m on"
        rename_i hrg2 Frg2 Nrg2 _
        rw [strs_len a19] at hrg2
        refine iter_range (n := zs.length) Frg2 Nrg2 hrg2 (range_ok hl19').1 (range_ok hl19').2 ?_
        intro h22 I22 own22 F22 N22 off22 ok22
        k_sweep
        refine csrc1 (nextOk_range rfl) self_range F22 N22 off22 ok22 (fun i ys => StrList ys ((List.range i).map fun k => Txt.join (Str.ofString "/") (zs.take k))) ?_ ?_ ?_ (fun _ _ _ h => h.2) rfl rfl ?_ ?_
        · omega
        · intro i ys hi; rw [hi.1]; simp
        · exact StrList.nil
        · intro i v ys own C oC D mC h tk dr hi hP hJ offc hCD hoC F3 N3
          k_sweep
          obtain ⟨⟨t3, rfl⟩, _⟩ := hP
          refine wpAny_pure ?_
          with_reducible refine ite_pos rfl ?_
          walk_at "m run"
          refine ⟨_, _, _, oC, _, rfl, by assumption, hoC, news_tail (by assumption), ?_⟩
          rw [list_take_snoc]
          have e5 : ((0 : Int) + (i : Nat)).toNat = i := by omega
          rw [e5]
          exact hJ.snoc _ _
        · intro D23 h23 tk23 dr23 ys23 F23 N23 off23 hJ23
          k_sweep
          have o23 : D13 ≠ D23 := off23 _ (.tail _ (.head _))
          have o19n : D13 ≠ D19 := l199n
          have hJ24 := strs_of hJ23
          walk_at "m on"
          refine kl_extend (its := ys13.toArray) (its2 := ys23.toArray) (l := ys13 ++ ys23) (by assumption) (by assumption) (.head _) rfl ?_ (by k_upd) ?_ ?_ ?_ ?_
          · rw [List.toList_toArray, strs_len hJ24]; simp only [List.length_map, List.length_range]; rw [← hzs]; exact sf1.2
          · refine extend_door ?_
            rw [List.size_toArray, List.size_toArray, strs_len hJ24, strs_len hJ14, sizeLine_eq]
            simp only [List.length_map, List.length_range]; omega
          · rw [List.toList_toArray, strs_len hJ14, sizeLine_eq]
            simp only [List.length_map, List.length_range]; omega
          · rw [List.size_toArray, List.size_toArray, strs_len hJ24, strs_len hJ14, sizeLine_eq]
            simp only [List.length_map, List.length_range]; omega
          intro h33 F33 N33
          k_sweep
          have hJ34 := strs_app hJ14 hJ24
          replace N33 : News g' L' h33 [(D13, listOf (ys13 ++ ys23).toArray (ys13.length + 1)), (Da, listOf ys.toArray n), (De, lst es), (L' + 1 + 1 + 1, o19), (L' + 1 + 1, o15), (L' + 1, o9), (c, tupOf cv), (I5, oI)] := fun p hp => N33 p (by
            rcases List.mem_cons.mp hp with rfl | hp
            · exact .tail _ (.tail _ (.head _))
            · exact .tail _ (.tail _ (.tail _ (.tail _ hp))))
          clear o23 o19n l199n off23 l99 l199
          walk_at "m on"
          refine comp_eval (h₀ := g') (L := L') rfl ?_ rfl ?_ ?_
          · decide
          · decide
          walk_at "m go"
          walk_at "m iter list"
          intro h42 I42 own42 F42 N42 off42 ok42
          k_sweep
          refine csrc1 (nextOk_list rfl) self_list F42 N42 off42 ok42 (fun i ys => StrList ys (((ch.take i).map ent).filter fun e => ((List.range xs.length).map (fun k => Txt.join (Str.ofString ".") (xs.take (k + 1))) ++ (List.range zs.length).map (fun k => Txt.join (Str.ofString "/") (zs.take k))).any (· == e))) ?_ ?_ ?_ (fun _ _ _ h => h.2) rfl rfl ?_ ?_
          · rw [List.size_toArray, hes.1, List.length_map]; omega
          · intro i ys hi; rw [hi.1]; exact Nat.le_trans (List.length_filter_le _ _) (by rw [List.length_map, List.length_take]; exact Nat.min_le_left _ _)
          · exact StrList.nil
          · intro i v ys own C oC D mC h tk dr hi hP hJ offc hCD hoC F3 N3
            k_sweep
            have hich : i < ch.length := by have := hes.1; rw [List.size_toArray, this, List.length_map] at hi; exact hi
            obtain ⟨u, hu⟩ := hes.2 i (by simpa using hich)
            rw [List.getElem_map] at hu
            obtain rfl : v = .str (ent ch[i]) u := by have := hP.1; rw [List.getElem?_toArray, hu] at this; cases this; rfl
            refine wpAny_tests_one ?_
            walk_at "m on"
            · refine ⟨_, _, _, oC, _, rfl, by assumption, hoC, by assumption, ?_⟩
              rw [filter_step _ hich, if_pos (by assumption)]
              exact hJ.snoc _ _
            · refine ⟨_, _, _, oC, _, rfl, by assumption, hoC, by assumption, ?_⟩
              rw [filter_step _ hich, if_neg (by simp_all), List.append_nil]
              exact hJ
          · intro D53 h53 tk53 dr53 ys53 F53 N53 off53 hJ53
            k_sweep
            simp only [List.forall_mem_cons] at off53
            obtain ⟨g1, g2, g3, g4, g5, g6, g7, g8, _⟩ := off53
            walk_at "m cmp"
            rename_i l55 h55 F55 N55 l155
            k_sweep
            refine ne_nil N55 (.tail _ (.head _)) (.head _) ?_ ?_
            · show un' + 3 < 9900; replace hu : un' < 300 := hu; omega
            have hans : ansOne ch (some f, md) = if (!ys53.isEmpty) = true then 1 else 0 := by
              subst hxs hzs
              unfold ansOne aboveOf
              dsimp only
              have el := hJ53.1
              rw [List.size_toArray, hes.1, List.length_map, List.take_length] at el
              simp only [Option.isNone_some, Bool.false_or]
              rw [show ∀ l : List Str, l.isEmpty = decide (l.length = 0) from fun l => by cases l <;> rfl, show ys53.isEmpty = decide (ys53.length = 0) from by cases ys53 <;> rfl, el]
            cases hem : ys53.isEmpty with
            | true =>
              rw [hem] at hans
              walk_at "m cmp"
              rename_i h66 F66 N66
              exact fin _ _ _ _ _ _ _ _ _ _ _ _ _ F66 (news_tail (news_tail (news_tail N66))) d19 d15 d9 hans.symm (by walk_at "m get") (by walk_at "m get") _ rfl
            | false =>
              rw [hem] at hans
              walk_at "m cmp"
              rename_i h66 F66 N66
              exact fin _ _ _ _ _ _ _ _ _ _ _ _ _ F66 (news_tail (news_tail (news_tail N66))) d19 d15 d9 hans.symm (by walk_at "m get") (by walk_at "m get") _ rfl
  · clear hS hA' hP
    rintro m₁ nw h71 tk71 dr71 ⟨oS, oA, oP, vS, vA, vP, ys, n, rfl, hS, hA', hP, hI, hm1, hm2⟩ F71 N71
    k_sweep
    walk_at "m on"
    have eT : calls.take cvs.toArray.size = calls := by rw [List.size_toArray, hcs.1, List.take_length]
    rw [eT] at hI
    refine leaveAll (new := [(Da, listOf ys.toArray n)]) (l := [(c, tupOf cv)]) hK N0 F71 (fun p hp => N71 p ?_) ?_ fun kF kN kK kA => h _ _ _ _ _ _ kF kN hI kK fun b o e => kA b o e _ (.head _)
    · rcases List.mem_cons.mp hp with rfl | hp
      · exact .head _
      · exact .tail _ (.tail _ (.tail _ (.tail _ (.tail _ hp))))
    · intro p hp r hr
      rcases List.mem_singleton.mp hr with rfl
      rcases List.mem_singleton.mp hp with rfl
      have := l3.2.2.2.2
      exact Nat.ne_of_lt this
end Mine
end
section
open PySem PySem.W PyProof.Rows PySem.Calls
set_option Elab.async false
set_option maxRecDepth 100000
set_option maxHeartbeats 4000000
namespace Mine
theorem set_back_MDec : True := by w_top off; trivial
noncomputable def callsL : List (Option Str × Str) := [(some (Str.ofString "/l/a/f.py"), Str.ofString "a.b"), (some (Str.ofString "/l/g.py"), Str.ofString "a.c"), (some (Str.ofString "/w/h.py"), Str.ofString "a.b.c"), (some (Str.ofString "/l/a/k.py"), Str.ofString "ab"), (some (Str.ofString "/la/n.py"), Str.ofString "b.a"), (none, Str.ofString "d")]
/-- the list of entries that a number tells -/
noncomputable def chOf (n : Nat) : List Int := (List.range 4).filterMap fun (k : Nat) => if n / 2 ^ k % 2 = 1 then some (k : Int) else none
noncomputable def toldP (ch : List Int) : List Int := (runS (modsOf ch) (dirsOf ch) ([], [(Str.ofString "<string>", 1)]) callsL).1
noncomputable def againP (ch : List Int) : List Int := (runS (modsOf ch) (dirsOf ch) ([], (runS (modsOf ch) (dirsOf ch) ([], [(Str.ofString "<string>", 1)]) callsL).2) (callsL.map fun c => (none, c.2))).1
noncomputable def subsL : List (List Int) := (List.range 16).map chOf
theorem again_ok : ∀ ch ∈ subsL, againP ch = toldP ch := by decide +kernel
theorem answers_ok : ∀ ch ∈ subsL, callsL.map (ansOne ch) = toldP ch := by decide +kernel
theorem calls_small : ∀ c ∈ callsL, CallSmall c := by
  unfold CallSmall Small
  decide +kernel
end Mine
end
section
open PySem PySem.W PyProof.Rows PySem.Calls PyProof.Rows.LCg
set_option Elab.async false
set_option maxRecDepth 100000
namespace Mine
theorem set_back_MPart : True := by w_top off; trivial
noncomputable def nth (l : List Stmt) (n : Nat) : Option Stmt := match l, n with | [], _ => none | a :: _, 0 => some a | _ :: r, n+1 => nth r n
noncomputable def fnBody (st : Option Stmt) : List Stmt := match st with | some (.FunctionDef _ _ body _ _ _ _ _ _ _) => body | _ => []
noncomputable def fnScope (st : Option Stmt) : Scope := match st with | some (.FunctionDef _ _ _ _ _ _ sc _ _ _) => sc | _ => default
noncomputable def whBody (st : Option Stmt) : List Stmt := match st with | some (.While _ b _ _) => b | _ => []
noncomputable def forBody (st : Option Stmt) : List Stmt := match st with | some (.For _ _ b _ _) => b | _ => []
abbrev topS : List Stmt := PySem.Challenge.pw_nq0047_02.main.body
/-- the search's turn, from its k-th statement on; what is behind the loop; its frame -/
noncomputable def sTurn (k : Nat) : List Stmt := (whBody (nth (fnBody (nth topS 21)) 2)).drop k
noncomputable def sTail : List Stmt := (fnBody (nth topS 21)).drop 3
noncomputable def sEnv (L : Addr) : Env := envOfC (Str.ofString "_law_search") (fnScope (nth topS 21)) L 143 (.ref 142)
noncomputable def sAr (dep : Nat) (env0 : Env) (outer : List Env) (gs : Option (List Code)) (un : Nat) (L : Addr) : Around := Around.deeper { depth := dep, frames := some (env0 :: outer), guards := gs, units := un } (sEnv L)
end Mine
end
section
open PySem PySem.W PyProof.Rows PySem.Calls
open PyProof.Rows.LCg (lst NsObj SrcAt)
open PySem.SeqAt
set_option Elab.async false
set_option maxRecDepth 100000
set_option maxHeartbeats 8000000
namespace Mine
theorem set_back_MTurn0 : True := by w_top off; trivial
theorem words_MTurn0 : True := by
  k_with_none
  k_with "m s0" => ((fail_if_success (with_reducible show WStep _ _ _ _ _ _)); (fail_if_success (with_reducible show wpAny _ _ (eval (Expr.ListComp _ _ _ _) _) _ _ _)); (fail_if_success (with_reducible show wpAny _ _ (exec (Stmt.For _ _ _ _ _) _) _ _ _)); (fail_if_success (with_reducible show wpAny _ _ (exec (Stmt.Assign _ (Expr.ListComp _ _ _ _) _ _) _) _ _ _)))
  k_with "m get" => ((repeat (first | assumption | exact get_eq | refine get_ne (by decide) ?_ | rfl)))
  k_with "eval Name" => (((with_reducible show wpAny _ _ (eval (Expr.Name _ _) (envOf _ _ _ _ _)) _ _ _); k_dflt (refine' ld ?z9k1 ?z9k2 ?_; (case z9k1 => k_asm); (case z9k2 => walk_at "m get"); k_whole)))
  k_with "subscriptTail" => (((with_reducible show wpAny _ _ (subscriptTail _ _ (Value.ref _) (Value.int _ _)) _ _ _); (refine' item_h ?z9k1 ?z9k2 ?z9k3 ?z9k4 ?_; (case z9k1 => assumption); (case z9k2 => omega); (case z9k3 => omega); (case z9k4 => assumption); k_whole)))
  k_with "setItem ref int" => ((((with_reducible show wpAny _ _ (setItem (Value.ref _) (Value.int _ _) _) _ _ _); (refine' setItem_h ?z9k1 ?z9k2 ?z9k3 ?z9k4 ?z9k5 ?z9k6 ?_; (case z9k1 => assumption); (case z9k2 => assumption); (case z9k3 => assumption); (case z9k4 => omega); (case z9k5 => assumption); (case z9k6 => omega); k_whole); intro h' F' N'); revert h' F' N'; intro _ _ _))
  k_with "call builtin:len" => (((with_reducible show wpAny _ _ (call (Value.builtin _) [Value.ref _]) _ _ _); (refine' len_h ?z9k1 ?z9k2 ?_; (case z9k1 => assumption); (case z9k2 => first | assumption | (simp only [List.length_append, List.length_cons, List.length_nil]; omega)); k_whole)))
  k_with "call builtin:list.append" => ((((with_reducible show wpAny _ _ (call (Value.builtin _) [Value.ref _, _]) _ _ _); (refine' append_h ?z9k1 ?z9k2 ?z9k3 ?z9k4 ?_; (case z9k1 => assumption); (case z9k2 => assumption); (case z9k3 => assumption); (case z9k4 => omega); k_whole); intro h' F' N'); revert h' F' N'; intro _ _ _))
  k_with "call builtin:list.pop" => ((((with_reducible show wpAny _ _ (call (Value.builtin _) [Value.ref _]) _ _ _); (refine' pop_h ?z9k1 ?z9k2 ?z9k3 ?z9k4 ?_; (case z9k1 => assumption); (case z9k2 => assumption); (case z9k3 => assumption); (case z9k4 => omega); k_whole); intro h' F' N'); revert h' F' N'; intro _ _ _))
  k_with "eval Name" => (((with_reducible show wpAny _ _ (eval (Expr.Name _ _) (compEnvC _ _ _ _)) _ _ _); k_dflt (refine' PySem.W.LCgL.ld_own ?z9k1 ?z9k2 ?z9k3 ?z9k4 ?_; (case z9k1 => k_asm); (case z9k2 => exact List.Mem.head _); (case z9k3 => assumption); (case z9k4 => walk_at "m get"); k_whole)))
  k_with "m mem" => (first | assumption | exact List.Mem.head _ | exact List.mem_append.mpr (Or.inl (by assumption)) | exact List.mem_append.mpr (Or.inr (by assumption)) | (refine List.Mem.tail _ ?_; walk_at "m mem"))
  k_with "subscriptTail" => (((with_reducible show wpAny _ _ (subscriptTail _ _ (Value.ref _) (Value.int _ _)) _ _ _); (refine' item_m ?z9k1 ?z9k2 ?z9k3 ?z9k4 ?z9k5 ?_; (case z9k1 => assumption); (case z9k5 => assumption); (case z9k2 => walk_at "m mem"); (case z9k3 => omega); (case z9k4 => omega); k_whole)))
  k_with "truthy ref" => ((k_dflt (refine' truthy_D ?z9N ?z9d ?z9m ?z9s ?z9f ?_; (case z9N => assumption); (case z9d => assumption); (case z9m => walk_at "m mem"); (case z9s => assumption); (case z9f => first | assumption | decide | omega); k_whole)))
  k_with "truthy ref" => ((k_dflt (refine' truthy_L ?z9N ?z9m ?z9f ?_; (case z9N => assumption); (case z9m => walk_at "m mem"); (case z9f => first | assumption | omega); k_whole)))
  k_with "call type:set" => ((((with_reducible show wpAny _ _ (call (Value.type _) [Value.ref _]) _ _ _); k_dflt (refine' set_new_strsN ?z9F ?z9N ?z9m ?z9v ?z9n ?z9hh ?z9f ?_; (case z9F => assumption); (case z9N => assumption); (case z9m => walk_at "m mem"); (case z9v => assumption); (case z9n => assumption); (case z9hh => exact rfl); (case z9f => first | assumption | omega); k_whole); intro h' tk' D' o' F' N' hS' l1'; (try k_lt l1')); revert h' tk' D' o' F' N' hS' l1'; intro _ _ _ _ _ _ _ _))
  k_with "call type:set nil nil" => (((k_dflt (refine' set_new_0 ?z9F ?z9N ?_; (case z9F => assumption); (case z9N => assumption); k_whole); intro h' D' o' F' N' hS' l1'; (try k_lt l1')); revert h' D' o' F' N' hS' l1'; intro _ _ _ _ _ _ _))
  k_with "getItem ref str" => (((k_dflt (refine' getItem_D ?z9N ?z9d ?z9f ?z9m ?z9s ?z9l ?_; (case z9N => assumption); (case z9d => assumption); (case z9f => assumption); (case z9m => walk_at "m mem"); (case z9s => assumption); (case z9l => assumption); k_whole); intro v' hv'); revert v' hv'; intro _ _))
  k_with "compareOp In str ref" => ((k_dflt (refine' in_set ?z9N ?z9m ?z9d ?_; (case z9N => assumption); (case z9d => assumption); (case z9m => walk_at "m mem"); k_whole)))
  k_with "setItem ref str" => (((k_dflt (refine' setItem_K PyProof.V.same_str (strKind_is _ _ _ _) ?z9v ?z9F ?z9N ?z9U ?z9d ?z9f ?_ ?z9z; (case z9F => assumption); (case z9N => assumption); (case z9U => k_updF); (case z9d => assumption); (case z9f => assumption); (case z9z => (rw [sizeLine_eq]; omega)); (case z9v => k_flat)); intro h' o' F' N' hd' hf'; (try dsimp only at N')); revert h' o' F' N' hd' hf'; intro _ _ _ _ _ _))
  k_with "binaryOp Add str str" => (((refine PyProof.Rows.add_str (hsz := ?z9hsz) ?_); (case z9hsz => (have e1 : (Str.ofString ".").length = 1 := by decide); (have e2 : (Str.ofString "/").length = 1 := by decide); (have e3 : (Str.ofString "/.").length = 2 := by decide); rw [sizeLine_eq]; omega); intro _ _))
  k_with "eval Name" => (((with_reducible show wpAny _ _ (eval (Expr.Name _ _) (compEnvC _ _ _ _)) _ _ _); k_dflt (refine' PySem.W.LCgL.ld_own ?z9k1 ?z9k2 ?z9k3 ?z9k4 ?_; (case z9k1 => k_asm); (case z9k2 => walk_at "m mem"); (case z9k3 => assumption); (case z9k4 => walk_at "m get"); k_whole)))
  k_with "m on" => ((repeat' (walk_at "m s0"; (fail_if_success (with_reducible show wpAny _ _ (call (Value.ref _) _ _) _ _ _)); first | walk1 | (dsimp only; walk1) | (with_reducible refine ite_neg Bool.false_ne_true ?_) | (with_reducible refine ite_pos rfl ?_))))
  k_with "eval Name" => (((with_reducible show wpAny _ _ (eval (Expr.Name _ _) (envOfC _ _ _ _ _)) _ _ _); k_dflt (refine' nameX_L ?z9F ?z9v ?_ ?z9a ?z9b; (case z9F => k_asm); (case z9a => rfl); (case z9b => rfl); (case z9v => walk_at "m get"); k_whole)))
  k_with "callWith" => (first | with_reducible refine PyProof.Rows.callWith_method0 ?_ | with_reducible refine PyProof.Rows.callWith_builtin1 ?_ | with_reducible refine PyProof.Rows.callWith_method1 ?_)
  trivial
/-- the rest of the ledger lies off what a turn changes -/
noncomputable def Ap (H Tl L : Addr) (rest : Led) : Prop := (∀ p ∈ rest, p.1 ≠ H) ∧ (∀ p ∈ rest, p.1 ≠ Tl) ∧ (∀ p ∈ rest, p.1 ≠ L + 1) ∧ (∀ p ∈ rest, p.1 ≠ L + 1 + 1) ∧ (∀ p ∈ rest, p.1 ≠ L + 1 + 1 + 1)
noncomputable def Ap5 (H Tl L : Addr) : Prop := H ≠ Tl ∧ H ≠ L + 1 ∧ H ≠ L + 1 + 1 ∧ H ≠ L + 1 + 1 + 1 ∧ Tl ≠ L + 1 ∧ Tl ≠ L + 1 + 1 ∧ Tl ≠ L + 1 + 1 + 1
abbrev led5 (H Tl L : Addr) (hv tv : List Value) (n nt : Nat) (oC oPr oPs : Obj) (rest : Led) : Led := (H, listOf hv.toArray n) :: (Tl, listOf tv.toArray nt) :: (L + 1 + 1 + 1, oC) :: (L + 1 + 1, oPr) :: (L + 1, oPs) :: rest
theorem turn0 {w : World} {s : Shared} {base g : Heap} {outer : List Env} {L : Addr} {m mg mb : Str → Option Value} {mean : ExcName → Option Value} {p : Program} {loose : List Str} {env0 : Env} {dep un : Nat} {gs : Option (List Code)}
 (B : Below { depth := dep, frames := some (env0 :: outer), guards := gs, units := un } base (env0 :: outer) g) (X : (Mine.hd.heap_1 w.params).In g) (T : Top p loose mean mg mb g) (hd : dep < 600) (hu : un < 200) (F : Fr g L s.heap m) {H Tl : Addr} {hv tv : List Value} {n nt : Nat} {oC oPr oPs : Obj} {rest : Led} {vC vPr : Option Value} (N : News g L s.heap (led5 H Tl L hv tv n nt oC oPr oPs rest)) (ap : Ap H Tl L rest) (ap5 : Ap5 H Tl L) (hC : oC.data = .cell vC) (hPr : oPr.data = .cell vPr)
 (hm : m (Str.ofString "heap") = some (.ref H)) {a c : Addr} {pr : Int} {u : Tok} (h0 : hv[0]? = some (.ref a)) (ha : (a, tupOf [.int pr u, .ref c]) ∈ rest) {Q : Flow → Shared → Prop}
 (h : ∀ h' tk oC oPr, Fr g L h' m → News g L h' (led5 H Tl L hv tv n nt oC oPr oPs rest) → oC.data = .cell (some (.ref c)) → oPr.data = .cell (some (.int pr u)) → wpAny (model PySem.Challenge.rw_nq0047_02.row.prog w) (sAr dep env0 outer gs un L) (execs (sTurn 1) (sEnv L)) Q NoE { s with heap := h', toks := tk }) :
 wpAny (model PySem.Challenge.rw_nq0047_02.row.prog w) (sAr dep env0 outer gs un L) (execs (sTurn 0) (sEnv L)) Q NoE s := by
  revert h
  revert X
  k_fill
  intro X
  dsimp only [sAr, sTurn, sTail, sEnv, topS, PySem.Challenge.pw_nq0047_02, nth, fnBody, fnScope, whBody, List.drop]
  intro h
  try k_fold
  obtain ⟨ap1, ap2, ap3, ap4, ap6⟩ := ap
  obtain ⟨p1, p2, p3, p4, p5, p6, p7⟩ := ap5
  walk_at "m on"
  refine assign_pair rfl (by assumption) (by assumption) (.inr ⟨_, .tail _ (.tail _ (.tail _ (.tail _ (.tail _ ha)))), rfl, _, rfl⟩) fun h3 F3 N3 => ?_
  k_sweep
  walk1
  dsimp only
  walk1
  dsimp only
  exact h _ _ _ _ (by assumption) (by assumption) (by assumption) (by assumption)
end Mine
end
section
open PySem PySem.W PyProof.Rows PySem.Calls
open PyProof.Rows.LCg (lst NsObj SrcAt)
open PySem.SeqAt
set_option Elab.async false
set_option maxRecDepth 100000
set_option maxHeartbeats 8000000
namespace Mine
theorem set_back_MTurn1 : True := by w_top off; trivial
theorem words_MTurn1 : True := by
  k_with_none
  k_with "m s0" => ((fail_if_success (with_reducible show WStep _ _ _ _ _ _)); (fail_if_success (with_reducible show wpAny _ _ (eval (Expr.ListComp _ _ _ _) _) _ _ _)); (fail_if_success (with_reducible show wpAny _ _ (exec (Stmt.For _ _ _ _ _) _) _ _ _)); (fail_if_success (with_reducible show wpAny _ _ (exec (Stmt.Assign _ (Expr.ListComp _ _ _ _) _ _) _) _ _ _)))
  k_with "m get" => ((repeat (first | assumption | exact get_eq | refine get_ne (by decide) ?_ | rfl)))
  k_with "eval Name" => (((with_reducible show wpAny _ _ (eval (Expr.Name _ _) (envOf _ _ _ _ _)) _ _ _); k_dflt (refine' ld ?z9k1 ?z9k2 ?_; (case z9k1 => k_asm); (case z9k2 => walk_at "m get"); k_whole)))
  k_with "subscriptTail" => (((with_reducible show wpAny _ _ (subscriptTail _ _ (Value.ref _) (Value.int _ _)) _ _ _); (refine' item_h ?z9k1 ?z9k2 ?z9k3 ?z9k4 ?_; (case z9k1 => assumption); (case z9k2 => omega); (case z9k3 => omega); (case z9k4 => assumption); k_whole)))
  k_with "setItem ref int" => ((((with_reducible show wpAny _ _ (setItem (Value.ref _) (Value.int _ _) _) _ _ _); (refine' setItem_h ?z9k1 ?z9k2 ?z9k3 ?z9k4 ?z9k5 ?z9k6 ?_; (case z9k1 => assumption); (case z9k2 => assumption); (case z9k3 => assumption); (case z9k4 => omega); (case z9k5 => assumption); (case z9k6 => omega); k_whole); intro h' F' N'); revert h' F' N'; intro _ _ _))
  k_with "call builtin:len" => (((with_reducible show wpAny _ _ (call (Value.builtin _) [Value.ref _]) _ _ _); (refine' len_h ?z9k1 ?z9k2 ?_; (case z9k1 => assumption); (case z9k2 => first | assumption | (simp only [List.length_append, List.length_cons, List.length_nil]; omega)); k_whole)))
  k_with "call builtin:list.append" => ((((with_reducible show wpAny _ _ (call (Value.builtin _) [Value.ref _, _]) _ _ _); (refine' append_h ?z9k1 ?z9k2 ?z9k3 ?z9k4 ?_; (case z9k1 => assumption); (case z9k2 => assumption); (case z9k3 => assumption); (case z9k4 => omega); k_whole); intro h' F' N'); revert h' F' N'; intro _ _ _))
  k_with "call builtin:list.pop" => ((((with_reducible show wpAny _ _ (call (Value.builtin _) [Value.ref _]) _ _ _); (refine' pop_h ?z9k1 ?z9k2 ?z9k3 ?z9k4 ?_; (case z9k1 => assumption); (case z9k2 => assumption); (case z9k3 => assumption); (case z9k4 => omega); k_whole); intro h' F' N'); revert h' F' N'; intro _ _ _))
  k_with "eval Name" => (((with_reducible show wpAny _ _ (eval (Expr.Name _ _) (compEnvC _ _ _ _)) _ _ _); k_dflt (refine' PySem.W.LCgL.ld_own ?z9k1 ?z9k2 ?z9k3 ?z9k4 ?_; (case z9k1 => k_asm); (case z9k2 => exact List.Mem.head _); (case z9k3 => assumption); (case z9k4 => walk_at "m get"); k_whole)))
  k_with "m mem" => (first | assumption | exact List.Mem.head _ | exact List.mem_append.mpr (Or.inl (by assumption)) | exact List.mem_append.mpr (Or.inr (by assumption)) | (refine List.Mem.tail _ ?_; walk_at "m mem"))
  k_with "subscriptTail" => (((with_reducible show wpAny _ _ (subscriptTail _ _ (Value.ref _) (Value.int _ _)) _ _ _); (refine' item_m ?z9k1 ?z9k2 ?z9k3 ?z9k4 ?z9k5 ?_; (case z9k1 => assumption); (case z9k5 => assumption); (case z9k2 => walk_at "m mem"); (case z9k3 => omega); (case z9k4 => omega); k_whole)))
  k_with "truthy ref" => ((k_dflt (refine' truthy_D ?z9N ?z9d ?z9m ?z9s ?z9f ?_; (case z9N => assumption); (case z9d => assumption); (case z9m => walk_at "m mem"); (case z9s => assumption); (case z9f => first | assumption | decide | omega); k_whole)))
  k_with "truthy ref" => ((k_dflt (refine' truthy_L ?z9N ?z9m ?z9f ?_; (case z9N => assumption); (case z9m => walk_at "m mem"); (case z9f => first | assumption | omega); k_whole)))
  k_with "call type:set" => ((((with_reducible show wpAny _ _ (call (Value.type _) [Value.ref _]) _ _ _); k_dflt (refine' set_new_strsN ?z9F ?z9N ?z9m ?z9v ?z9n ?z9hh ?z9f ?_; (case z9F => assumption); (case z9N => assumption); (case z9m => walk_at "m mem"); (case z9v => assumption); (case z9n => assumption); (case z9hh => exact rfl); (case z9f => first | assumption | omega); k_whole); intro h' tk' D' o' F' N' hS' l1'; (try k_lt l1')); revert h' tk' D' o' F' N' hS' l1'; intro _ _ _ _ _ _ _ _))
  k_with "call type:set nil nil" => (((k_dflt (refine' set_new_0 ?z9F ?z9N ?_; (case z9F => assumption); (case z9N => assumption); k_whole); intro h' D' o' F' N' hS' l1'; (try k_lt l1')); revert h' D' o' F' N' hS' l1'; intro _ _ _ _ _ _ _))
  k_with "getItem ref str" => (((k_dflt (refine' getItem_D ?z9N ?z9d ?z9f ?z9m ?z9s ?z9l ?_; (case z9N => assumption); (case z9d => assumption); (case z9f => assumption); (case z9m => walk_at "m mem"); (case z9s => assumption); (case z9l => assumption); k_whole); intro v' hv'); revert v' hv'; intro _ _))
  k_with "compareOp In str ref" => ((k_dflt (refine' in_set ?z9N ?z9m ?z9d ?_; (case z9N => assumption); (case z9d => assumption); (case z9m => walk_at "m mem"); k_whole)))
  k_with "setItem ref str" => (((k_dflt (refine' setItem_K PyProof.V.same_str (strKind_is _ _ _ _) ?z9v ?z9F ?z9N ?z9U ?z9d ?z9f ?_ ?z9z; (case z9F => assumption); (case z9N => assumption); (case z9U => k_updF); (case z9d => assumption); (case z9f => assumption); (case z9z => (rw [sizeLine_eq]; omega)); (case z9v => k_flat)); intro h' o' F' N' hd' hf'; (try dsimp only at N')); revert h' o' F' N' hd' hf'; intro _ _ _ _ _ _))
  k_with "binaryOp Add str str" => (((refine PyProof.Rows.add_str (hsz := ?z9hsz) ?_); (case z9hsz => (have e1 : (Str.ofString ".").length = 1 := by decide); (have e2 : (Str.ofString "/").length = 1 := by decide); (have e3 : (Str.ofString "/.").length = 2 := by decide); rw [sizeLine_eq]; omega); intro _ _))
  k_with "eval Name" => (((with_reducible show wpAny _ _ (eval (Expr.Name _ _) (compEnvC _ _ _ _)) _ _ _); k_dflt (refine' PySem.W.LCgL.ld_own ?z9k1 ?z9k2 ?z9k3 ?z9k4 ?_; (case z9k1 => k_asm); (case z9k2 => walk_at "m mem"); (case z9k3 => assumption); (case z9k4 => walk_at "m get"); k_whole)))
  k_with "m on" => ((repeat' (walk_at "m s0"; (fail_if_success (with_reducible show wpAny _ _ (call (Value.ref _) _ _) _ _ _)); first | walk1 | (dsimp only; walk1) | (with_reducible refine ite_neg Bool.false_ne_true ?_) | (with_reducible refine ite_pos rfl ?_))))
  k_with "eval Name" => (((with_reducible show wpAny _ _ (eval (Expr.Name _ _) (envOfC _ _ _ _ _)) _ _ _); k_dflt (refine' nameX_L ?z9F ?z9v ?_ ?z9a ?z9b; (case z9F => k_asm); (case z9a => rfl); (case z9b => rfl); (case z9v => walk_at "m get"); k_whole)))
  k_with "callWith" => (first | with_reducible refine PyProof.Rows.callWith_method0 ?_ | with_reducible refine PyProof.Rows.callWith_builtin1 ?_ | with_reducible refine PyProof.Rows.callWith_method1 ?_)
  trivial
theorem subs_facts : ∀ ch ∈ subsL, (∀ k ∈ ch, 0 ≤ k ∧ k < 4) ∧ ch.Nodup ∧ ch.length < 90 := by decide +kernel
theorem Ap.cons {H Tl L D : Addr} {o : Obj} {rest : Led} (h : Ap H Tl L rest) (h1 : H ≠ D) (h2 : Tl ≠ D) (h3 : L + 1 ≠ D) (h4 : L + 1 + 1 ≠ D) (h5 : L + 1 + 1 + 1 ≠ D) : Ap H Tl L ((D, o) :: rest) := by
  obtain ⟨a, b, c, d, e⟩ := h
  exact ⟨List.forall_mem_cons.mpr ⟨h1.symm, a⟩, List.forall_mem_cons.mpr ⟨h2.symm, b⟩, List.forall_mem_cons.mpr ⟨h3.symm, c⟩, List.forall_mem_cons.mpr ⟨h4.symm, d⟩, List.forall_mem_cons.mpr ⟨h5.symm, e⟩⟩
/-- a new object goes to the rest -/
theorem led5_new {g h : Heap} {L H Tl D : Addr} {o : Obj} {hv tv : List Value} {n nt : Nat} {oC oPr oPs : Obj} {rest : Led} (N : News g L h ((D, o) :: led5 H Tl L hv tv n nt oC oPr oPs rest)) : News g L h (led5 H Tl L hv tv n nt oC oPr oPs ((D, o) :: rest)) := fun p hp => N p (by
  simp only [led5, List.mem_cons] at hp ⊢; grind)
theorem turn1 {w : World} {s : Shared} {base g : Heap} {outer : List Env} {L : Addr} {m mg mb : Str → Option Value} {mean : ExcName → Option Value} {p : Program} {loose : List Str} {env0 : Env} {dep un : Nat} {gs : Option (List Code)}
 (B : Below { depth := dep, frames := some (env0 :: outer), guards := gs, units := un } base (env0 :: outer) g) (X : (Mine.hd.heap_1 w.params).In g) (T : Top p loose mean mg mb g) (hd : dep < 600) (hu : un < 200) (F : Fr g L s.heap m) {H Tl : Addr} {hv tv : List Value} {n nt : Nat} {oC oPr oPs : Obj} {rest : Led} (N : News g L s.heap (led5 H Tl L hv tv n nt oC oPr oPs rest)) (ap : Ap H Tl L rest) {c ca : Addr} {cv cvs : List Value} {q : Nat} {ch : List Int} (hC : oC.data = .cell (some (.ref c)))
 (hm : m (Str.ofString "calls") = some (.ref ca)) (hc : (c, tupOf cv) ∈ rest) (hi : IntsAre cv ch) (hs : ch ∈ subsL) (hca : (ca, listOf cvs.toArray q) ∈ rest) (hcs : CallsOk cvs rest callsL) {Q : Flow → Shared → Prop}
 (h : ∀ h' tk dr D ts, Fr g L h' (fun y => if y = Str.ofString "answers" then some (.ref D) else m y) → News g L h' (led5 H Tl L hv tv n nt oC oPr oPs ((D, lst ts) :: rest)) → Ap H Tl L ((D, lst ts) :: rest) → IntsAre ts (toldP ch) → wpAny (model PySem.Challenge.rw_nq0047_02.row.prog w) (sAr dep env0 outer gs un L) (execs (sTurn 2) (sEnv L)) Q NoE { s with heap := h', toks := tk, drawn := dr }) :
 wpAny (model PySem.Challenge.rw_nq0047_02.row.prog w) (sAr dep env0 outer gs un L) (execs (sTurn 1) (sEnv L)) Q NoE s := by
  revert h
  revert X
  k_fill
  intro X
  dsimp only [sAr, sTurn, sTail, sEnv, topS, PySem.Challenge.pw_nq0047_02, nth, fnBody, fnScope, whBody, List.drop]
  intro h
  try k_fold
  walk_at "m on"
  refine wpAny_call ?_
  obtain ⟨f1, f2, f3⟩ := subs_facts ch hs
  refine asked_K (c := c) (ca := ca) (cl := rest) (q := q) (by assumption) (by assumption) (by assumption) (news_sub N ?_) (by assumption) rfl rfl rfl hi f1 f2 f3 hcs (by decide) (again_ok ch hs) ?_ ?_ rfl ?_
  · intro p hp
    rcases List.mem_cons.mp hp with rfl | hp
    · exact .tail _ (.tail _ (.tail _ (.tail _ (.tail _ hc))))
    · rcases List.mem_cons.mp hp with rfl | hp
      · exact .tail _ (.tail _ (.tail _ (.tail _ (.tail _ hca))))
      · exact .tail _ (.tail _ (.tail _ (.tail _ (.tail _ hp))))
  · k_room
  · show un + 3 < 300; omega
  intro h1 tk1 dr1 D ts F1 N1 hts kp ne
  have N2 := led5_new (news_cons N1 (N.grown kp))
  have ap2 : Ap H Tl L ((D, lst ts) :: rest) := ap.cons (ne _ _ (N _ (.head _)).1) (ne _ _ (N _ (.tail _ (.head _))).1) (ne _ _ (N _ (.tail _ (.tail _ (.tail _ (.tail _ (.head _)))))).1) (ne _ _ (N _ (.tail _ (.tail _ (.tail _ (.head _))))).1) (ne _ _ (N _ (.tail _ (.tail _ (.head _)))).1)
  k_sweep
  walk1
  (try dsimp only)
  exact h _ _ _ _ _ (by assumption) (by assumption) ap2 hts
end Mine
end
section
open PySem PySem.W PyProof.Rows PySem.Calls
open PyProof.Rows.LCg (lst NsObj SrcAt)
set_option Elab.async false
set_option maxRecDepth 100000
set_option maxHeartbeats 8000000
namespace Mine
theorem set_back_MWish : True := by w_top off; trivial
theorem words_MWish : True := by
  k_with_none
  k_with "m get" => ((repeat (first | assumption | exact get_eq | refine get_ne (by decide) ?_ | rfl)))
  k_with "eval Name" => (((with_reducible show wpAny _ _ (eval (Expr.Name _ _) (envOf _ _ _ _ _)) _ _ _); k_dflt (refine' ld ?z9k1 ?z9k2 ?_; (case z9k1 => k_asm); (case z9k2 => walk_at "m get"); k_whole)))
  k_with "m go" => ((repeat ((fail_if_success (with_reducible show WStep _ _ _ _ _ _)); first | walk1 | (dsimp only; walk1))))
  k_with "subscriptTail" => (((with_reducible show wpAny _ _ (subscriptTail _ _ (Value.ref _) (Value.int _ _)) _ _ _); (refine' item_h ?z9k1 ?z9k2 ?z9k3 ?z9k4 ?_; (case z9k1 => assumption); (case z9k2 => omega); (case z9k3 => omega); (case z9k4 => assumption); k_whole)))
  k_with "setItem ref int" => ((((with_reducible show wpAny _ _ (setItem (Value.ref _) (Value.int _ _) _) _ _ _); (refine' setItem_h ?z9k1 ?z9k2 ?z9k3 ?z9k4 ?z9k5 ?z9k6 ?_; (case z9k1 => assumption); (case z9k2 => assumption); (case z9k3 => assumption); (case z9k4 => omega); (case z9k5 => assumption); (case z9k6 => omega); k_whole); intro h' F' N'); revert h' F' N'; intro _ _ _))
  k_with "call builtin:len" => (((with_reducible show wpAny _ _ (call (Value.builtin _) [Value.ref _]) _ _ _); (refine' len_h ?z9k1 ?z9k2 ?_; (case z9k1 => assumption); (case z9k2 => first | assumption | (simp only [List.length_append, List.length_cons, List.length_nil]; omega)); k_whole)))
  k_with "call builtin:list.append" => ((((with_reducible show wpAny _ _ (call (Value.builtin _) [Value.ref _, _]) _ _ _); (refine' append_h ?z9k1 ?z9k2 ?z9k3 ?z9k4 ?_; (case z9k1 => assumption); (case z9k2 => assumption); (case z9k3 => assumption); (case z9k4 => omega); k_whole); intro h' F' N'); revert h' F' N'; intro _ _ _))
  k_with "call builtin:list.pop" => ((((with_reducible show wpAny _ _ (call (Value.builtin _) [Value.ref _]) _ _ _); (refine' pop_h ?z9k1 ?z9k2 ?z9k3 ?z9k4 ?_; (case z9k1 => assumption); (case z9k2 => assumption); (case z9k3 => assumption); (case z9k4 => omega); k_whole); intro h' F' N'); revert h' F' N'; intro _ _ _))
  k_with "m enterC" => ((   (case kA => assumption); (case kF => assumption); (case kK => assumption); (case k1 => assumption); (case k2 => assumption); (case k3 => assumption); (case k4 => assumption); (case k5 => assumption);   (case k6 => k_is); (case k7 => k_is); (case k8 => k_room); (case k9 => exact BindsTo.of_eq rfl); (case kB => exact rfl); (case kD => decide +kernel); (case c2 => exact rfl); (case c3 => exact rfl); (case c4 => exact rfl)))
  k_with "eval Name" => (((with_reducible show wpAny _ _ (eval (Expr.Name _ _) (compEnvC _ _ _ _)) _ _ _); k_dflt (refine' PySem.W.LCgL.ld_own ?z9k1 ?z9k2 ?z9k3 ?z9k4 ?_; (case z9k1 => k_asm); (case z9k2 => exact List.Mem.head _); (case z9k3 => assumption); (case z9k4 => walk_at "m get"); k_whole)))
  k_with "m mem" => (first | assumption | exact List.Mem.head _ | exact List.mem_append.mpr (Or.inl (by assumption)) | exact List.mem_append.mpr (Or.inr (by assumption)) | (refine List.Mem.tail _ ?_; walk_at "m mem"))
  k_with "subscriptTail" => (((with_reducible show wpAny _ _ (subscriptTail _ _ (Value.ref _) (Value.int _ _)) _ _ _); (refine' item_m ?z9k1 ?z9k2 ?z9k3 ?z9k4 ?z9k5 ?_; (case z9k1 => assumption); (case z9k5 => assumption); (case z9k2 => walk_at "m mem"); (case z9k3 => omega); (case z9k4 => omega); k_whole)))
  k_with "m all" => ((repeat' ((fail_if_success (with_reducible show WStep _ _ _ _ _ _)); first | walk1 | (dsimp only; walk1) | (with_reducible refine ite_neg Bool.false_ne_true ?_) | (with_reducible refine ite_pos rfl ?_))))
  k_with "m sub" => ((intro q9 hq9; simp only [List.cons_append, List.nil_append, List.append_assoc, List.mem_cons, List.mem_append, List.not_mem_nil, or_false, false_or] at hq9 ⊢; grind))
  trivial
noncomputable def badK (ai wi : List Int) (k : Nat) : Bool := !(wi.getD k 0 == 0 || Int.fmod (wi.getD k 0) 2 == ai.getD k 0)
noncomputable def wishedB (ai wi : List Int) : Bool := decide ((List.range wi.length).filter (badK ai wi) = [])
theorem wished_K {w : World} {A A₀ : Around} {s : Shared} {h₀ base : Heap} {outer : List Env} {L : Addr} {m mg mb : Str → Option Value} {mean : ExcName → Option Value} {p : Program} {loose : List Str} {news : List (Addr × Obj)} {env : Env} {R : Result → Shared → Prop}
 {a b : Addr} {ans ws : List Value} {ai wi : List Int} {na nw : Nat}
 (B : Below A₀ base outer h₀) (F : Fr h₀ L s.heap m) (X₀ : (Mine.hd.heap_1 w.params).In h₀) (N : News h₀ L s.heap news) (T : Top p loose mean mg mb h₀) (hA : A.frames = some (env :: outer)) (hf : env.frame = some L) (hke : env.scope.kind = .function)
 (hd : A.depth < 700) (hu : A.units < 300) (hh : A.handled = none)
 (ha : (a, listOf ans.toArray na) ∈ news) (hb : (b, listOf ws.toArray nw) ∈ news) (hia : IntsAre ans ai) (hiw : IntsAre ws wi) (hl : wi.length = ai.length) (hlen : ai.length < 1000)
 (h : ∀ h' t' d', Fr h₀ L h' m → News h₀ L h' news → R (.ok (.ret (.bool (wishedB ai wi)))) { s with heap := h', toks := t', drawn := d' }) :
 codeAny (model PySem.Challenge.rw_nq0047_02.row.prog w) A (.call (.ref 138) ⟨[.ref a, .ref b], []⟩) R s := by
  revert X₀
  k_fill
  intro X₀
  refine' code_defC (binds := [(Str.ofString "answers", .ref a), (Str.ofString "wishes", .ref b)]) ?k1 ?k2 ?k3 ?k4 ?k5 ?kA ?kF ?kK ?k6 ?k7 ?k8 ?k9 ?kB ?kD ?_ ?c2 ?c3 ?c4
  walk_at "m enterC"
  intro g' L' h' tk' cells' FG' F' N' Y' B' X' T' l1
  have hY := CellsAre.one Y'
  obtain ⟨oc, hE, hoc⟩ := hY
  subst hE
  clear Y' F N B X₀ T
  replace hoc : oc.data = .cell (some (.ref a)) := hoc
  replace N' : News g' L' h' ((L' + 1, oc) :: news) := N'
  refine wpAny_noRaise ?_
  k_fold
  walk1
  walk1
  walk1
  refine comp_eval (h₀ := g') (L := L') rfl ?_ rfl ?_ ?_
  · decide
  · decide
  walk_at "m go"
  refine enum_new F' N' (.inr ⟨_, .tail _ hb, rfl, _, rfl⟩) fun h1 e it own hne F1 N1 off1 ok1 => ?_
  refine self_enum _ _ _ ok1 N1 _ ?_
  refine ⟨e, [e, it], own, _, _, ws.toArray.size, _, _, fun i ys nw => nw = (L' + 1, oc) :: news ∧ IntsAre ys (((List.range i).filter (badK ai wi)).map (fun k : Nat => (k : Int))), rfl, nextOk_enum hh hne, self_enum, ?_, ?_, F1, N1, off1, ok1, ⟨rfl, .nil⟩, ?_, ?_⟩
  · rw [List.size_toArray]; have := hiw.length; omega
  · rintro i ys nw ⟨rfl, hi⟩
    rw [hi.length, List.length_map]
    exact Nat.le_trans (List.length_filter_le _ _) (by rw [List.length_range]; exact Nat.le_refl _)
  · rintro i v ys nw own' C oC D mC h2 tk2 dr2 ext hi ⟨T, t, x, hx, rfl, rfl⟩ ⟨rfl, hJ⟩ offc hext hCD hoC F2 N2 ok2
    obtain ⟨t9, rfl⟩ := IntsAre.int_at hiw i x (by simpa using hx)
    have hia' : i < ai.length := by have := hiw.length; rw [List.size_toArray] at hi; omega
    obtain ⟨v9, hv9⟩ : ∃ v9, ans[i]? = some v9 := ⟨ans[i]'(by have := hia.length; omega), by simp⟩
    obtain ⟨t8, rfl⟩ := IntsAre.int_at hia i v9 hv9
    have offC := off_comp (oD := lst ys) hCD offc hext ((nextOk_enum hh hne : NextOk PySem.Challenge.rw_nq0047_02.row.prog w _ g' L' (.Tuple [] 0 default) e [e, it] ws.toArray.size _ _).at_ _ _ _ ok2)
    refine assign_pair hh F2 N2 (.inr ⟨_, .tail _ (.tail _ (.head _)), rfl, _, rfl⟩) fun h3 F3 N3 => ?_
    refine store_comp F3 N3 hoC offC ?_ rfl rfl
    intro h4 oC4 hoC4 F4 N4
    refine store_comp F4 N4 hoC4 offC ?_ rfl rfl
    intro h5 oC5 hoC5 F5 N5
    simp only [List.cons_append, List.nil_append] at N5
    clear N4 N3 N2 F4 F3 F2 hoC4 hoC
    refine wpAny_tests_one ?_
    dsimp only
    have fin : ∀ b, badK ai wi i = b → ((List.range (i + 1)).filter (badK ai wi)).map (fun k : Nat => (k : Int)) = ((List.range i).filter (badK ai wi)).map (fun k : Nat => (k : Int)) ++ (if b then [(i : Int)] else []) := by
      intro b hb
      rw [List.range_succ, List.filter_append, List.map_append]
      simp only [List.filter_cons, List.filter_nil, hb]
      cases b <;> rfl
    walk_at "m all"
    · refine ⟨h5, _, _, own', oC5, _, _, rfl, F5, hoC5, news_sub N5 (by walk_at "m sub"), offc, ok2, rfl, ?_⟩
      rw [fin true (by simp_all [badK])]
      exact hJ.append (.cons _ _ .nil)
    · refine ⟨h5, _, _, own', oC5, _, _, rfl, F5, hoC5, news_sub N5 (by walk_at "m sub"), offc, ok2, rfl, ?_⟩
      rw [fin false (by simp_all [badK])]
      simpa using hJ
    · refine ⟨h5, _, _, own', oC5, _, _, rfl, F5, hoC5, news_sub N5 (by walk_at "m sub"), offc, ok2, rfl, ?_⟩
      rw [fin false (by simp_all [badK])]
      simpa using hJ
  · rintro D C oC mC h2 tk2 dr2 ys nw F2 hoC N2 hCD off2 ⟨rfl, hJ⟩ h3 F3 N3 off3
    walk_at "m go"
    rename_i l4 h4 F4 N4 l5
    refine leaveK_ F4 (news_sub N4 (l' := news) (by walk_at "m sub")) fun kF kN => ?_
    have e : decide (List.map (fun k : Nat => (k : Int)) (List.filter (badK ai wi) (List.range ws.toArray.size)) = []) = wishedB ai wi := by
      rw [List.size_toArray, hiw.length]; unfold wishedB; simp
    rw [e]
    exact h _ _ _ kF kN
end Mine
end
section
open PySem PySem.W PyProof.Rows PySem.Calls
open PyProof.Rows.LCg (lst NsObj SrcAt)
open PySem.SeqAt
set_option Elab.async false
set_option maxRecDepth 100000
set_option maxHeartbeats 8000000
namespace Mine
theorem set_back_MTurn3 : True := by w_top off; trivial
theorem words_MTurn3 : True := by
  k_with_none
  k_with "m s0" => ((fail_if_success (with_reducible show WStep _ _ _ _ _ _)); (fail_if_success (with_reducible show wpAny _ _ (eval (Expr.ListComp _ _ _ _) _) _ _ _)); (fail_if_success (with_reducible show wpAny _ _ (exec (Stmt.For _ _ _ _ _) _) _ _ _)); (fail_if_success (with_reducible show wpAny _ _ (exec (Stmt.Assign _ (Expr.ListComp _ _ _ _) _ _) _) _ _ _)))
  k_with "m get" => ((repeat (first | assumption | exact get_eq | refine get_ne (by decide) ?_ | rfl)))
  k_with "eval Name" => (((with_reducible show wpAny _ _ (eval (Expr.Name _ _) (envOf _ _ _ _ _)) _ _ _); k_dflt (refine' ld ?z9k1 ?z9k2 ?_; (case z9k1 => k_asm); (case z9k2 => walk_at "m get"); k_whole)))
  k_with "subscriptTail" => (((with_reducible show wpAny _ _ (subscriptTail _ _ (Value.ref _) (Value.int _ _)) _ _ _); (refine' item_h ?z9k1 ?z9k2 ?z9k3 ?z9k4 ?_; (case z9k1 => assumption); (case z9k2 => omega); (case z9k3 => omega); (case z9k4 => assumption); k_whole)))
  k_with "setItem ref int" => ((((with_reducible show wpAny _ _ (setItem (Value.ref _) (Value.int _ _) _) _ _ _); (refine' setItem_h ?z9k1 ?z9k2 ?z9k3 ?z9k4 ?z9k5 ?z9k6 ?_; (case z9k1 => assumption); (case z9k2 => assumption); (case z9k3 => assumption); (case z9k4 => omega); (case z9k5 => assumption); (case z9k6 => omega); k_whole); intro h' F' N'); revert h' F' N'; intro _ _ _))
  k_with "call builtin:len" => (((with_reducible show wpAny _ _ (call (Value.builtin _) [Value.ref _]) _ _ _); (refine' len_h ?z9k1 ?z9k2 ?_; (case z9k1 => assumption); (case z9k2 => first | assumption | (simp only [List.length_append, List.length_cons, List.length_nil]; omega)); k_whole)))
  k_with "call builtin:list.append" => ((((with_reducible show wpAny _ _ (call (Value.builtin _) [Value.ref _, _]) _ _ _); (refine' append_h ?z9k1 ?z9k2 ?z9k3 ?z9k4 ?_; (case z9k1 => assumption); (case z9k2 => assumption); (case z9k3 => assumption); (case z9k4 => omega); k_whole); intro h' F' N'); revert h' F' N'; intro _ _ _))
  k_with "call builtin:list.pop" => ((((with_reducible show wpAny _ _ (call (Value.builtin _) [Value.ref _]) _ _ _); (refine' pop_h ?z9k1 ?z9k2 ?z9k3 ?z9k4 ?_; (case z9k1 => assumption); (case z9k2 => assumption); (case z9k3 => assumption); (case z9k4 => omega); k_whole); intro h' F' N'); revert h' F' N'; intro _ _ _))
  k_with "eval Name" => (((with_reducible show wpAny _ _ (eval (Expr.Name _ _) (compEnvC _ _ _ _)) _ _ _); k_dflt (refine' PySem.W.LCgL.ld_own ?z9k1 ?z9k2 ?z9k3 ?z9k4 ?_; (case z9k1 => k_asm); (case z9k2 => exact List.Mem.head _); (case z9k3 => assumption); (case z9k4 => walk_at "m get"); k_whole)))
  k_with "m mem" => (first | assumption | exact List.Mem.head _ | exact List.mem_append.mpr (Or.inl (by assumption)) | exact List.mem_append.mpr (Or.inr (by assumption)) | (refine List.Mem.tail _ ?_; walk_at "m mem"))
  k_with "subscriptTail" => (((with_reducible show wpAny _ _ (subscriptTail _ _ (Value.ref _) (Value.int _ _)) _ _ _); (refine' item_m ?z9k1 ?z9k2 ?z9k3 ?z9k4 ?z9k5 ?_; (case z9k1 => assumption); (case z9k5 => assumption); (case z9k2 => walk_at "m mem"); (case z9k3 => omega); (case z9k4 => omega); k_whole)))
  k_with "truthy ref" => ((k_dflt (refine' truthy_D ?z9N ?z9d ?z9m ?z9s ?z9f ?_; (case z9N => assumption); (case z9d => assumption); (case z9m => walk_at "m mem"); (case z9s => assumption); (case z9f => first | assumption | decide | omega); k_whole)))
  k_with "truthy ref" => ((k_dflt (refine' truthy_L ?z9N ?z9m ?z9f ?_; (case z9N => assumption); (case z9m => walk_at "m mem"); (case z9f => first | assumption | omega); k_whole)))
  k_with "call type:set" => ((((with_reducible show wpAny _ _ (call (Value.type _) [Value.ref _]) _ _ _); k_dflt (refine' set_new_strsN ?z9F ?z9N ?z9m ?z9v ?z9n ?z9hh ?z9f ?_; (case z9F => assumption); (case z9N => assumption); (case z9m => walk_at "m mem"); (case z9v => assumption); (case z9n => assumption); (case z9hh => exact rfl); (case z9f => first | assumption | omega); k_whole); intro h' tk' D' o' F' N' hS' l1'; (try k_lt l1')); revert h' tk' D' o' F' N' hS' l1'; intro _ _ _ _ _ _ _ _))
  k_with "call type:set nil nil" => (((k_dflt (refine' set_new_0 ?z9F ?z9N ?_; (case z9F => assumption); (case z9N => assumption); k_whole); intro h' D' o' F' N' hS' l1'; (try k_lt l1')); revert h' D' o' F' N' hS' l1'; intro _ _ _ _ _ _ _))
  k_with "getItem ref str" => (((k_dflt (refine' getItem_D ?z9N ?z9d ?z9f ?z9m ?z9s ?z9l ?_; (case z9N => assumption); (case z9d => assumption); (case z9f => assumption); (case z9m => walk_at "m mem"); (case z9s => assumption); (case z9l => assumption); k_whole); intro v' hv'); revert v' hv'; intro _ _))
  k_with "compareOp In str ref" => ((k_dflt (refine' in_set ?z9N ?z9m ?z9d ?_; (case z9N => assumption); (case z9d => assumption); (case z9m => walk_at "m mem"); k_whole)))
  k_with "setItem ref str" => (((k_dflt (refine' setItem_K PyProof.V.same_str (strKind_is _ _ _ _) ?z9v ?z9F ?z9N ?z9U ?z9d ?z9f ?_ ?z9z; (case z9F => assumption); (case z9N => assumption); (case z9U => k_updF); (case z9d => assumption); (case z9f => assumption); (case z9z => (rw [sizeLine_eq]; omega)); (case z9v => k_flat)); intro h' o' F' N' hd' hf'; (try dsimp only at N')); revert h' o' F' N' hd' hf'; intro _ _ _ _ _ _))
  k_with "binaryOp Add str str" => (((refine PyProof.Rows.add_str (hsz := ?z9hsz) ?_); (case z9hsz => (have e1 : (Str.ofString ".").length = 1 := by decide); (have e2 : (Str.ofString "/").length = 1 := by decide); (have e3 : (Str.ofString "/.").length = 2 := by decide); rw [sizeLine_eq]; omega); intro _ _))
  k_with "eval Name" => (((with_reducible show wpAny _ _ (eval (Expr.Name _ _) (compEnvC _ _ _ _)) _ _ _); k_dflt (refine' PySem.W.LCgL.ld_own ?z9k1 ?z9k2 ?z9k3 ?z9k4 ?_; (case z9k1 => k_asm); (case z9k2 => walk_at "m mem"); (case z9k3 => assumption); (case z9k4 => walk_at "m get"); k_whole)))
  k_with "m on" => ((repeat' (walk_at "m s0"; (fail_if_success (with_reducible show wpAny _ _ (call (Value.ref _) _ _) _ _ _)); first | walk1 | (dsimp only; walk1) | (with_reducible refine ite_neg Bool.false_ne_true ?_) | (with_reducible refine ite_pos rfl ?_))))
  k_with "eval Name" => (((with_reducible show wpAny _ _ (eval (Expr.Name _ _) (envOfC _ _ _ _ _)) _ _ _); k_dflt (refine' nameX_L ?z9F ?z9v ?_ ?z9a ?z9b; (case z9F => k_asm); (case z9a => rfl); (case z9b => rfl); (case z9v => walk_at "m get"); k_whole)))
  k_with "callWith" => (first | with_reducible refine PyProof.Rows.callWith_method0 ?_ | with_reducible refine PyProof.Rows.callWith_builtin1 ?_ | with_reducible refine PyProof.Rows.callWith_method1 ?_)
  trivial
theorem turn3 {w : World} {s : Shared} {base g : Heap} {outer : List Env} {L : Addr} {m mg mb : Str → Option Value} {mean : ExcName → Option Value} {p : Program} {loose : List Str} {env0 : Env} {dep un : Nat} {gs : Option (List Code)}
 (B : Below { depth := dep, frames := some (env0 :: outer), guards := gs, units := un } base (env0 :: outer) g) (X : (Mine.hd.heap_1 w.params).In g) (T : Top p loose mean mg mb g) (hd : dep < 600) (hu : un < 200) (F : Fr g L s.heap m) {H Tl : Addr} {hv tv : List Value} {n nt : Nat} {oC oPr oPs : Obj} {rest : Led} (N : News g L s.heap (led5 H Tl L hv tv n nt oC oPr oPs rest)) {D wa : Addr} {ts wv : List Value} {nw : Nat} {ai wi : List Int}
 (hm1 : m (Str.ofString "answers") = some (.ref D)) (hm2 : m (Str.ofString "wishes") = some (.ref wa)) (h1 : (D, lst ts) ∈ rest) (h2 : (wa, listOf wv.toArray nw) ∈ rest) (hi : IntsAre ts ai) (hw : IntsAre wv wi) (hl : wi.length = ai.length) (hlen : ai.length < 1000) {Q : Flow → Shared → Prop}
 (h : ∀ h' tk dr, Fr g L h' (fun y => if y = Str.ofString "done" then some (.bool (wishedB ai wi)) else m y) → News g L h' (led5 H Tl L hv tv n nt oC oPr oPs rest) → wpAny (model PySem.Challenge.rw_nq0047_02.row.prog w) (sAr dep env0 outer gs un L) (execs (sTurn 4) (sEnv L)) Q NoE { s with heap := h', toks := tk, drawn := dr }) :
 wpAny (model PySem.Challenge.rw_nq0047_02.row.prog w) (sAr dep env0 outer gs un L) (execs (sTurn 3) (sEnv L)) Q NoE s := by
  revert h
  revert X
  k_fill
  intro X
  dsimp only [sAr, sTurn, sTail, sEnv, topS, PySem.Challenge.pw_nq0047_02, nth, fnBody, fnScope, whBody, List.drop]
  intro h
  try k_fold
  walk_at "m on"
  refine wpAny_call ?_
  refine wished_K (a := D) (b := wa) (ans := ts) (ws := wv) (by assumption) (by assumption) (by assumption) N (by assumption) rfl rfl rfl ?_ ?_ rfl (.tail _ (.tail _ (.tail _ (.tail _ (.tail _ h1))))) (.tail _ (.tail _ (.tail _ (.tail _ (.tail _ h2))))) hi hw hl hlen ?_
  · k_room
  · show un + 3 < 300; omega
  intro h1 tk1 dr1 F1 N1
  k_sweep
  walk1
  (try dsimp only)
  exact h _ _ _ (by assumption) (by assumption)
end Mine
end
section
open PySem PySem.W PyProof.Rows PySem.Calls PySem.SeqAt PyProof.Rows.LCg
set_option Elab.async false
set_option maxRecDepth 100000
set_option maxHeartbeats 1000000
namespace Mine
theorem set_back_MTurn2B : True := by w_top off; trivial
section
variable {prog : Program} {w : World} {A : Around} {E : Value → Shared → Prop} {s : Shared} {env : Env} {h₀ : Heap} {L C I : Addr} {m mC : Str → Option Value} {news own : Led} {oC : Obj} {scope : Scope} {cl : List (Str × Addr)} {elt : PySem.Expr} {ifs : List PySem.Expr} {ads : List Addr} {n : Nat} {P : Nat → Value → Led → Prop} {Ok : Nat → Led → Led → Prop}
  {Q : Value → Shared → Prop} {x y : Str} {px py pos : Pos} {x1 : Nat}
/-- a comprehension with one name, whose turns make objects that are kept -/
theorem csrcN {Fin : (Str → Option Value) → Shared → Addr → Addr → Obj → Heap → Nat → Drawn → List Value → Led → Prop}
    (X : NextOk prog w A h₀ L (.Name x px) I ads n P Ok) (hself : ∀ (s : Shared) own news, Ok 0 own news → News h₀ L s.heap (own ++ news) → ∀ Q : Value → Shared → Prop, Q (.ref I) s → wpAny (model prog w) A (pyIter (.ref I)) Q NoE s)
    (F : Fr h₀ L s.heap m) (N : News h₀ L s.heap (own ++ news)) (off : Off ads news) (hok : Ok 0 own news) (J : Nat → List Value → Led → Prop) (hn : n ≤ 1000000) (hlen : ∀ i ys nw, J i ys nw → ys.length ≤ i) (h0 : J 0 [] news)
    (hP : ∀ i v ext, P i v ext → ext = []) (hx : scope.names.lookup x = some .local) (hkind : scope.kind = .function)
    (turn : ∀ i v ys nw own C oC D (mC : Str → Option Value) h tk dr, i < n → P i v [] → J i ys nw → Off (C :: D :: ads) nw → (∀ p ∈ own, p.1 ∈ ads) → (@Ne Nat C D ∧ C ∉ ads ∧ D ∉ ads) → NsObj oC (fun z => if z = x then some v else mC z) → Fr h₀ L h m → News h₀ L h ((C, oC) :: (D, lst ys) :: (nw ++ own)) → Ok (i + 1) own nw →
      wpAny (model prog w) A (forIn ifs true fun c r => if r = true then do let ok ← isTrue c (compEnvC scope cl C env) (eval c (compEnvC scope cl C env)); pure (ForInStep.yield ok) else pure (ForInStep.yield r)) (fun ok s' =>
          if ok = true then wpAny (model prog w) A (eval elt (compEnvC scope cl C env)) (fun y s' => CEnd h₀ L m ads C D Ok J s i ys (ys ++ [y]) s') NoE s' else CEnd h₀ L m ads C D Ok J s i ys ys s') NoE { s with heap := h, toks := tk, drawn := dr })
    (fin : ∀ D C oC mC h tk dr ys nw, Fr h₀ L h m → NsObj oC mC → News h₀ L h ((C, oC) :: (D, lst ys) :: nw) → C ≠ D → (∀ p ∈ nw, p.1 ≠ C ∧ p.1 ≠ D) → J n ys nw → Fin m s D C oC h tk dr ys nw) :
    CSrc prog w A h₀ L env (.Name x px) elt ifs scope cl Fin (.ref I) s := by
  refine ⟨I, ads, own, news, m, n, P, Ok, J, rfl, X, hself, hn, hlen, F, N, off, hok, h0, ?_, fin⟩
  intro i v ys nw own C oC D mC h tk dr ext hi hPv hJ offc hext hCD hoC F2 N2 ok2
  obtain rfl := hP _ _ _ hPv
  rw [List.nil_append] at N2
  have offC : ∀ p ∈ (D, lst ys) :: (nw ++ own), p.1 ≠ C := by
    intro p hp
    rcases List.mem_cons.mp hp with rfl | hp
    · exact Ne.symm hCD.1
    · rcases List.mem_append.mp hp with hp | hp
      · exact fun e => offc p hp (e ▸ .head _)
      · exact fun e => hCD.2.1 (e ▸ X.at_ _ _ _ ok2 p hp)
  refine wpAny_assign_Name ?_
  refine store_comp F2 N2 hoC offC ?_ hx hkind
  intro h4 oC4 hoC4 F4 N4
  exact turn i v ys nw own C oC4 D mC h4 (tk + 1) dr hi hPv hJ offc (X.at_ _ _ _ ok2) hCD hoC4 F4 N4 ok2
end
section
variable {prog : Program} {w : World} {A : Around} {E : Value → Shared → Prop} {s : Shared} {h₀ : Heap} {L c b : Addr} {m : Str → Option Value} {news : Led} {cv : List Value} {ch : List Int} {k : Int} {t : Tok}
theorem add_one {Q : Value → Shared → Prop} (F : Fr h₀ L s.heap m) (N : News h₀ L s.heap news) (hc : (c, tupOf cv) ∈ news) (hb : (b, tupOf [.int k t]) ∈ news) (hi : IntsAre cv ch) (hl : ch.length < 1000)
    (h : ∀ D zs h' new, Fr h₀ L h' m → News h₀ L h' (new ++ news) → (D, tupOf zs) ∈ new ++ news → IntsAre zs (ch ++ [k]) → (∀ q ∈ new, ∀ p ∈ news, p.1 < q.1) → Q (.ref D) { s with heap := h' }) :
    wpAny (model prog w) A (binaryOp .Add (.ref c) (.ref b)) Q E s := by
  refine add_tuples (vs := cv) (ws := [.int k t]) F N ⟨_, (N _ hc).1, rfl, _, rfl⟩ ⟨_, (N _ hb).1, rfl, _, rfl⟩ (fun e => ?_) (fun _ e => nomatch e) (fun hne _ h' F' N' => ?_) (by rw [hi.length, sizeLine_eq, List.length_singleton]; omega)
  · subst e
    cases hi
    exact h b [Value.int k t] s.heap [] F N hb (.cons _ _ .nil) (fun q hq => nomatch hq)
  · refine h _ (cv ++ [Value.int k t]) h' [(s.heap.objs.size, tupOf (cv ++ [Value.int k t]))] F' N' (.head _) (hi.append (.cons _ _ .nil)) ?_
    intro q hq p hp
    rcases List.mem_singleton.mp hq with rfl
    exact Heap.lt_size (N p hp).1
theorem add_nil {Q : Value → Shared → Prop} (F : Fr h₀ L s.heap m) (N : News h₀ L s.heap news) (hc : (c, tupOf []) ∈ news) (hb : (b, tupOf [.int k t]) ∈ news) (h : Q (.ref b) s) : wpAny (model prog w) A (binaryOp .Add (.ref c) (.ref b)) Q E s :=
  add_tuples (vs := []) (ws := [.int k t]) F N ⟨_, (N _ hc).1, rfl, _, rfl⟩ ⟨_, (N _ hb).1, rfl, _, rfl⟩ (fun _ => h) (fun _ e => nomatch e) (fun e _ => absurd rfl e) (by rw [sizeLine_eq]; simp)
theorem add_cons {Q : Value → Shared → Prop} (F : Fr h₀ L s.heap m) (N : News h₀ L s.heap news) (hc : (c, tupOf cv) ∈ news) (hb : (b, tupOf [.int k t]) ∈ news) (hne : cv ≠ []) (hl : cv.length < 1000)
    (h : ∀ D h', Fr h₀ L h' m → News h₀ L h' ((D, tupOf (cv ++ [Value.int k t])) :: news) → (∀ p ∈ news, p.1 < D) → Q (.ref D) { s with heap := h' }) : wpAny (model prog w) A (binaryOp .Add (.ref c) (.ref b)) Q E s :=
  add_tuples (vs := cv) (ws := [.int k t]) F N ⟨_, (N _ hc).1, rfl, _, rfl⟩ ⟨_, (N _ hb).1, rfl, _, rfl⟩ (fun e => absurd e hne) (fun _ e => nomatch e) (fun _ _ h' F' N' => h _ h' F' N' fun p hp => Heap.lt_size (N p hp).1) (by rw [sizeLine_eq, List.length_singleton]; omega)
theorem item_last {value slice : PySem.Expr} {u : Tok} {Q : Value → Shared → Prop} (N : News h₀ L s.heap news) (hc : (c, tupOf cv) ∈ news) (hi : IntsAre cv ch) (hne : ch ≠ []) (hl : ch.length < 1000) (h : ∀ t, Q (.int (ch.getLast hne) t) s)
    (hs : subscripted slice false (.ref c) (.int (-1) u) = operate [.ref c, .int (-1) u] (getItem (.ref c) (.int (-1) u)) := by with_unfolding_all rfl) :
    wpAny (model prog w) A (subscriptTail value slice (.ref c) (.int (-1) u)) Q E s := by
  have hl1 := hi.length
  have hpos : 0 < ch.length := List.length_pos_iff.mpr hne
  obtain ⟨t, ht⟩ := hi.get (ch.length - 1) (ch.getLast hne) (by rw [List.getElem?_eq_getElem (by omega), List.getLast_eq_getElem])
  refine item_tupleT (j := cv.length - 1) ⟨_, (N _ hc).1, rfl, _, rfl⟩ (by decide) (by decide) ?_ (by rw [hl1]; exact ht) (h t) hs
  unfold seqIndex?
  simp
  omega
end
end Mine
end
section
open PySem PySem.W PyProof.Rows PySem.Calls
open PyProof.Rows.LCg (lst NsObj SrcAt)
open PySem.SeqAt
set_option Elab.async false
set_option maxRecDepth 100000
set_option maxHeartbeats 8000000
namespace Mine
theorem set_back_MTurn2 : True := by w_top off; trivial
theorem words_MTurn2 : True := by
  k_with_none
  k_with "m s0" => ((fail_if_success (with_reducible show WStep _ _ _ _ _ _)); (fail_if_success (with_reducible show wpAny _ _ (eval (Expr.ListComp _ _ _ _) _) _ _ _)); (fail_if_success (with_reducible show wpAny _ _ (exec (Stmt.For _ _ _ _ _) _) _ _ _)); (fail_if_success (with_reducible show wpAny _ _ (exec (Stmt.Assign _ (Expr.ListComp _ _ _ _) _ _) _) _ _ _)))
  k_with "m get" => ((repeat (first | assumption | exact get_eq | refine get_ne (by decide) ?_ | rfl)))
  k_with "eval Name" => (((with_reducible show wpAny _ _ (eval (Expr.Name _ _) (envOf _ _ _ _ _)) _ _ _); k_dflt (refine' ld ?z9k1 ?z9k2 ?_; (case z9k1 => k_asm); (case z9k2 => walk_at "m get"); k_whole)))
  k_with "subscriptTail" => (((with_reducible show wpAny _ _ (subscriptTail _ _ (Value.ref _) (Value.int _ _)) _ _ _); (refine' item_h ?z9k1 ?z9k2 ?z9k3 ?z9k4 ?_; (case z9k1 => assumption); (case z9k2 => omega); (case z9k3 => omega); (case z9k4 => assumption); k_whole)))
  k_with "setItem ref int" => ((((with_reducible show wpAny _ _ (setItem (Value.ref _) (Value.int _ _) _) _ _ _); (refine' setItem_h ?z9k1 ?z9k2 ?z9k3 ?z9k4 ?z9k5 ?z9k6 ?_; (case z9k1 => assumption); (case z9k2 => assumption); (case z9k3 => assumption); (case z9k4 => omega); (case z9k5 => assumption); (case z9k6 => omega); k_whole); intro h' F' N'); revert h' F' N'; intro _ _ _))
  k_with "call builtin:len" => (((with_reducible show wpAny _ _ (call (Value.builtin _) [Value.ref _]) _ _ _); (refine' len_h ?z9k1 ?z9k2 ?_; (case z9k1 => assumption); (case z9k2 => first | assumption | (simp only [List.length_append, List.length_cons, List.length_nil]; omega)); k_whole)))
  k_with "call builtin:list.append" => ((((with_reducible show wpAny _ _ (call (Value.builtin _) [Value.ref _, _]) _ _ _); (refine' append_h ?z9k1 ?z9k2 ?z9k3 ?z9k4 ?_; (case z9k1 => assumption); (case z9k2 => assumption); (case z9k3 => assumption); (case z9k4 => omega); k_whole); intro h' F' N'); revert h' F' N'; intro _ _ _))
  k_with "call builtin:list.pop" => ((((with_reducible show wpAny _ _ (call (Value.builtin _) [Value.ref _]) _ _ _); (refine' pop_h ?z9k1 ?z9k2 ?z9k3 ?z9k4 ?_; (case z9k1 => assumption); (case z9k2 => assumption); (case z9k3 => assumption); (case z9k4 => omega); k_whole); intro h' F' N'); revert h' F' N'; intro _ _ _))
  k_with "eval Name" => (((with_reducible show wpAny _ _ (eval (Expr.Name _ _) (compEnvC _ _ _ _)) _ _ _); k_dflt (refine' PySem.W.LCgL.ld_own ?z9k1 ?z9k2 ?z9k3 ?z9k4 ?_; (case z9k1 => k_asm); (case z9k2 => exact List.Mem.head _); (case z9k3 => assumption); (case z9k4 => walk_at "m get"); k_whole)))
  k_with "m mem" => (first | assumption | exact List.Mem.head _ | exact List.mem_append.mpr (Or.inl (by assumption)) | exact List.mem_append.mpr (Or.inr (by assumption)) | (refine List.Mem.tail _ ?_; walk_at "m mem"))
  k_with "subscriptTail" => (((with_reducible show wpAny _ _ (subscriptTail _ _ (Value.ref _) (Value.int _ _)) _ _ _); (refine' item_m ?z9k1 ?z9k2 ?z9k3 ?z9k4 ?z9k5 ?_; (case z9k1 => assumption); (case z9k5 => assumption); (case z9k2 => walk_at "m mem"); (case z9k3 => omega); (case z9k4 => omega); k_whole)))
  k_with "m sub" => ((intro q9 hq9; simp only [List.cons_append, List.nil_append, List.append_assoc, List.mem_cons, List.mem_append, List.not_mem_nil, or_false, false_or] at hq9 ⊢; grind))
  k_with "truthy ref" => ((k_dflt (refine' truthy_D ?z9N ?z9d ?z9m ?z9s ?z9f ?_; (case z9N => assumption); (case z9d => assumption); (case z9m => walk_at "m mem"); (case z9s => assumption); (case z9f => first | assumption | decide | omega); k_whole)))
  k_with "truthy ref" => ((k_dflt (refine' truthy_L ?z9N ?z9m ?z9f ?_; (case z9N => assumption); (case z9m => walk_at "m mem"); (case z9f => first | assumption | omega); k_whole)))
  k_with "call type:set" => ((((with_reducible show wpAny _ _ (call (Value.type _) [Value.ref _]) _ _ _); k_dflt (refine' set_new_strsN ?z9F ?z9N ?z9m ?z9v ?z9n ?z9hh ?z9f ?_; (case z9F => assumption); (case z9N => assumption); (case z9m => walk_at "m mem"); (case z9v => assumption); (case z9n => assumption); (case z9hh => exact rfl); (case z9f => first | assumption | omega); k_whole); intro h' tk' D' o' F' N' hS' l1'; (try k_lt l1')); revert h' tk' D' o' F' N' hS' l1'; intro _ _ _ _ _ _ _ _))
  k_with "call type:set nil nil" => (((k_dflt (refine' set_new_0 ?z9F ?z9N ?_; (case z9F => assumption); (case z9N => assumption); k_whole); intro h' D' o' F' N' hS' l1'; (try k_lt l1')); revert h' D' o' F' N' hS' l1'; intro _ _ _ _ _ _ _))
  k_with "getItem ref str" => (((k_dflt (refine' getItem_D ?z9N ?z9d ?z9f ?z9m ?z9s ?z9l ?_; (case z9N => assumption); (case z9d => assumption); (case z9f => assumption); (case z9m => walk_at "m mem"); (case z9s => assumption); (case z9l => assumption); k_whole); intro v' hv'); revert v' hv'; intro _ _))
  k_with "compareOp In str ref" => ((k_dflt (refine' in_set ?z9N ?z9m ?z9d ?_; (case z9N => assumption); (case z9d => assumption); (case z9m => walk_at "m mem"); k_whole)))
  k_with "setItem ref str" => (((k_dflt (refine' setItem_K PyProof.V.same_str (strKind_is _ _ _ _) ?z9v ?z9F ?z9N ?z9U ?z9d ?z9f ?_ ?z9z; (case z9F => assumption); (case z9N => assumption); (case z9U => k_updF); (case z9d => assumption); (case z9f => assumption); (case z9z => (rw [sizeLine_eq]; omega)); (case z9v => k_flat)); intro h' o' F' N' hd' hf'; (try dsimp only at N')); revert h' o' F' N' hd' hf'; intro _ _ _ _ _ _))
  k_with "binaryOp Add str str" => (((refine PyProof.Rows.add_str (hsz := ?z9hsz) ?_); (case z9hsz => (have e1 : (Str.ofString ".").length = 1 := by decide); (have e2 : (Str.ofString "/").length = 1 := by decide); (have e3 : (Str.ofString "/.").length = 2 := by decide); rw [sizeLine_eq]; omega); intro _ _))
  k_with "eval Name" => (((with_reducible show wpAny _ _ (eval (Expr.Name _ _) (compEnvC _ _ _ _)) _ _ _); k_dflt (refine' PySem.W.LCgL.ld_own ?z9k1 ?z9k2 ?z9k3 ?z9k4 ?_; (case z9k1 => k_asm); (case z9k2 => walk_at "m mem"); (case z9k3 => assumption); (case z9k4 => walk_at "m get"); k_whole)))
  k_with "m on" => ((repeat' (walk_at "m s0"; (fail_if_success (with_reducible show wpAny _ _ (call (Value.ref _) _ _) _ _ _)); first | walk1 | (dsimp only; walk1) | (with_reducible refine ite_neg Bool.false_ne_true ?_) | (with_reducible refine ite_pos rfl ?_))))
  k_with "m cmp" => ((repeat' (walk_at "m s0"; (fail_if_success (with_reducible show wpAny _ _ (call (Value.ref _) _ _) _ _ _)); (fail_if_success (with_reducible show wpAny _ _ (compareOp _ (Value.ref _) (Value.ref _)) _ _ _)); first | walk1 | (dsimp only; walk1) | (with_reducible refine ite_neg Bool.false_ne_true ?_) | (with_reducible refine ite_pos rfl ?_))))
  k_with "eval Name" => (((with_reducible show wpAny _ _ (eval (Expr.Name _ _) (envOfC _ _ _ _ _)) _ _ _); k_dflt (refine' nameX_L ?z9F ?z9v ?_ ?z9a ?z9b; (case z9F => k_asm); (case z9a => rfl); (case z9b => rfl); (case z9v => walk_at "m get"); k_whole)))
  k_with "callWith" => (first | with_reducible refine PyProof.Rows.callWith_method0 ?_ | with_reducible refine PyProof.Rows.callWith_builtin1 ?_ | with_reducible refine PyProof.Rows.callWith_method1 ?_)
  k_with "m cs" => ((repeat' (walk_at "m s0"; (fail_if_success (with_reducible show wpAny _ _ (call (Value.ref _) _ _) _ _ _)); (fail_if_success (with_reducible show wpAny _ _ (compareOp _ (Value.ref _) (Value.ref _)) _ _ _)); (fail_if_success (with_reducible show wpAny _ _ (subscriptTail _ _ _ _) _ _ _)); first | walk1 | (dsimp only; walk1) | (with_reducible refine ite_neg Bool.false_ne_true ?_) | (with_reducible refine ite_pos rfl ?_))))
  k_with "binaryOp Add ref ref" => (((k_here; k_dflt (refine' add_cons ?z9F ?z9N ?z9c ?z9b ?z9i ?z9l ?_; (case z9F => assumption); (case z9N => assumption); (case z9i => assumption); (case z9l => assumption); (case z9b => exact List.Mem.head _); (case z9c => walk_at "m mem")); intro D' h' F' N' l1; (try k_lt l1)); revert D' h' F' N' l1; intro _ _ _ _ _))
  k_with "binaryOp Add ref ref" => ((k_here; k_dflt (refine' add_nil ?z9F ?z9N ?z9c ?z9b ?_; (case z9F => assumption); (case z9N => assumption); (case z9b => exact List.Mem.head _); (case z9c => walk_at "m mem"))))
  k_with "subscriptTail" => (((k_here; (with_reducible show wpAny _ _ (subscriptTail _ _ (Value.ref _) (Value.int (-1) _)) _ _ _); k_dflt (refine' item_last ?z9N ?z9c ?z9i ?z9n ?z9l ?_; (case z9N => assumption); (case z9i => assumption); (case z9n => assumption); (case z9l => omega); (case z9c => walk_at "m mem")); intro t'); revert t'; intro _))
  trivial
/-- v is a pair of the ledger, of a price and a tuple of ints -/
noncomputable def KeyIn (led : Led) (v : Value) (k : Key) : Prop := ∃ a c u cv, v = .ref a ∧ (a, tupOf [.int k.1 u, .ref c]) ∈ led ∧ (c, tupOf cv) ∈ led ∧ IntsAre cv k.2
theorem KeyIn.mono {l l' : Led} {v : Value} {k : Key} (h : KeyIn l v k) (hs : ∀ p ∈ l, p ∈ l') : KeyIn l' v k := by
  obtain ⟨a, c, u, cv, e, h1, h2, h3⟩ := h
  exact ⟨a, c, u, cv, e, hs _ h1, hs _ h2, h3⟩
theorem KeyIn.at {l : Led} {v : Value} {k : Key} (h : KeyIn l v k) {hp : Heap} (hh : ∀ p ∈ l, hp.get? p.1 = some p.2) : KeyAt hp v k := by
  obtain ⟨a, c, u, cv, e, h1, h2, h3⟩ := h
  exact ⟨a, c, u, e, ⟨_, hh _ h1, rfl, _, rfl⟩, cv, ⟨_, hh _ h2, rfl, _, rfl⟩, h3⟩
noncomputable def KeysIn (led : Led) (vs : List Value) (ks : List Key) : Prop := vs.length = ks.length ∧ ∀ i (h : i < ks.length), ∃ v, vs[i]? = some v ∧ KeyIn led v ks[i]
theorem KeysIn.mono {l l' : Led} {vs : List Value} {ks : List Key} (h : KeysIn l vs ks) (hs : ∀ p ∈ l, p ∈ l') : KeysIn l' vs ks :=
  ⟨h.1, fun i hi => by obtain ⟨v, e, hk⟩ := h.2 i hi; exact ⟨v, e, hk.mono hs⟩⟩
theorem KeysIn.snoc {l : Led} {vs : List Value} {ks : List Key} {v : Value} {k : Key} (h : KeysIn l vs ks) (hk : KeyIn l v k) : KeysIn l (vs ++ [v]) (ks ++ [k]) := by
  refine ⟨by simp [h.1], fun i hi => ?_⟩
  have hl := h.1
  by_cases e : i < ks.length
  · obtain ⟨u, hu, hk2⟩ := h.2 i e
    exact ⟨u, by rw [List.getElem?_append_left (by omega)]; exact hu, by rw [List.getElem_append_left e]; exact hk2⟩
  · have : i = ks.length := by simp at hi; omega
    subst this
    exact ⟨v, by rw [List.getElem?_append_right (by omega), hl]; simp, by simpa using hk⟩
/-- the ways on from a list -/
noncomputable def goesOn (ch : List Int) (k : Nat) : Bool := ch.isEmpty || decide (ch.getLastD 0 < (k : Int))
noncomputable def childs (ps : List Int) (pr : Int) (ch : List Int) (n : Nat) : List Key := ((List.range n).filter (goesOn ch)).map fun k => (pr + ps.getD k 0, ch ++ [(k : Int)])
theorem goes_ne {ch : List Int} (hne : ch ≠ []) (k : Nat) : goesOn ch k = decide (ch.getLast hne < (k : Int)) := by
  unfold goesOn
  cases ch with
  | nil => exact absurd rfl hne
  | cons x r => rw [List.getLastD_eq_getLast?, List.getLast?_eq_some_getLast hne]; rfl
theorem childs_step (ps : List Int) (pr : Int) (ch : List Int) (n : Nat) : childs ps pr ch (n + 1) = childs ps pr ch n ++ if goesOn ch n = true then [(pr + ps.getD n 0, ch ++ [(n : Int)])] else [] := by
  unfold childs
  rw [List.range_succ, List.filter_append, List.map_append]
  congr 1
  simp only [List.filter_cons, List.filter_nil]
  split <;> rfl
theorem Ap.app {H Tl L : Addr} {ex rest : Led} (h : Ap H Tl L rest) (h2 : Ap H Tl L ex) : Ap H Tl L (ex ++ rest) := by
  obtain ⟨a, b, c, d, e⟩ := h
  obtain ⟨a', b', c', d', e'⟩ := h2
  refine ⟨?_, ?_, ?_, ?_, ?_⟩ <;> (intro p hp; rcases List.mem_append.mp hp with hp | hp)
  all_goals first | exact a' p hp | exact a p hp | exact b' p hp | exact b p hp | exact c' p hp | exact c p hp | exact d' p hp | exact d p hp | exact e' p hp | exact e p hp
abbrev J2 (g : Heap) (L H Tl : Addr) (hv tv : List Value) (n nt : Nat) (oC oPr oPs : Obj) (rest : Led) (ps : List Int) (pr : Int) (ch : List Int) : Nat → List Value → Led → Prop := fun i ys nw => ∃ ex, nw = led5 H Tl L hv tv n nt oC oPr oPs (ex ++ rest) ∧ Ap H Tl L (ex ++ rest) ∧ KeysIn (ex ++ rest) ys (childs ps pr ch i)
theorem t2_end {s sF : Shared} {g h9 : Heap} {L H Tl C D I P T : Addr} {m mC : Str → Option Value} {hv tv ys zs : List Value} {n nt i tk : Nat} {dr : Drawn} {oC oPr oPs oCc oI : Obj} {ex rest new : Led} {ps ch : List Int} {pr : Int} {u9 : Tok}
 (F9 : Fr g L h9 m) (N9 : News g L h9 (new ++ ((C, oCc) :: (D, lst ys) :: (I, oI) :: led5 H Tl L hv tv n nt oC oPr oPs (ex ++ rest)))) (hoC : NsObj oCc mC) (hoI : ∀ nw, ROk I 0 4 (i + 1) [(I, oI)] nw) (offc : Off [C, D, I] (led5 H Tl L hv tv n nt oC oPr oPs (ex ++ rest))) (ap : Ap H Tl L (ex ++ rest)) (hk : KeysIn (ex ++ rest) ys (childs ps pr ch i))
 (hP : (P, tupOf [.int (pr + ps.getD i 0) u9, .ref T]) ∈ new) (hT : (T, tupOf zs) ∈ new) (hz : IntsAre zs (ch ++ [(0 : Int) + (i : Nat)])) (hg : goesOn ch i = true)
 (hlt : ∀ q ∈ new, @LT.lt Nat _ C q.1 ∧ @LT.lt Nat _ D q.1 ∧ @LT.lt Nat _ I q.1 ∧ @LT.lt Nat _ H q.1 ∧ @LT.lt Nat _ Tl q.1 ∧ @LT.lt Nat _ (L + 1 + 1 + 1) q.1 ∧ @LT.lt Nat _ (L + 1 + 1) q.1 ∧ @LT.lt Nat _ (L + 1) q.1)
 (hs : { s with heap := h9, toks := tk, drawn := dr } = { sF with heap := h9, toks := tk, drawn := dr }) : CEnd g L m [I] C D (ROk I 0 4) (J2 g L H Tl hv tv n nt oC oPr oPs rest ps pr ch) sF i ys (ys ++ [.ref P]) { s with heap := h9, toks := tk, drawn := dr } := by
  refine ⟨h9, tk, dr, [(I, oI)], oCc, mC, led5 H Tl L hv tv n nt oC oPr oPs ((new ++ ex) ++ rest), hs, F9, hoC, news_sub N9 (by walk_at "m sub"), ?_, hoI _, new ++ ex, rfl, ?_, ?_⟩
  · intro p hp hm
    simp only [led5, List.append_assoc, List.mem_cons, List.mem_append] at hp
    have old : ∀ p ∈ led5 H Tl L hv tv n nt oC oPr oPs (ex ++ rest), p.1 ∉ [C, D, I] := offc
    rcases hp with rfl | rfl | rfl | rfl | rfl | hp | hp
    · exact old _ (.head _) hm
    · exact old _ (.tail _ (.head _)) hm
    · exact old _ (.tail _ (.tail _ (.head _))) hm
    · exact old _ (.tail _ (.tail _ (.tail _ (.head _)))) hm
    · exact old _ (.tail _ (.tail _ (.tail _ (.tail _ (.head _))))) hm
    · obtain ⟨a, b, c, _⟩ := hlt p hp
      simp only [List.mem_cons, List.not_mem_nil, or_false] at hm
      rcases hm with e | e | e
      · exact absurd e (Nat.ne_of_gt a)
      · exact absurd e (Nat.ne_of_gt b)
      · exact absurd e (Nat.ne_of_gt c)
    · exact old _ (.tail _ (.tail _ (.tail _ (.tail _ (.tail _ (List.mem_append.mpr hp)))))) hm
  · rw [List.append_assoc]
    refine ap.app ⟨?_, ?_, ?_, ?_, ?_⟩ <;> intro p hp <;> obtain ⟨_, _, _, a, b, c, d, e⟩ := hlt p hp
    · exact Nat.ne_of_gt a
    · exact Nat.ne_of_gt b
    · exact Nat.ne_of_gt e
    · exact Nat.ne_of_gt d
    · exact Nat.ne_of_gt c
  · rw [Int.zero_add] at hz
    rw [childs_step, if_pos hg]
    refine (hk.mono ?_).snoc ⟨P, T, u9, zs, rfl, ?_, ?_, hz⟩
    · intro p hp; rw [List.append_assoc]; exact List.mem_append.mpr (.inr hp)
    · rw [List.append_assoc]; exact List.mem_append.mpr (.inl hP)
    · rw [List.append_assoc]; exact List.mem_append.mpr (.inl hT)
theorem turn2 {w : World} {s : Shared} {base g : Heap} {outer : List Env} {L : Addr} {m mg mb : Str → Option Value} {mean : ExcName → Option Value} {p : Program} {loose : List Str} {env0 : Env} {dep un : Nat} {gs : Option (List Code)}
 (B : Below { depth := dep, frames := some (env0 :: outer), guards := gs, units := un } base (env0 :: outer) g) (X : (Mine.hd.heap_1 w.params).In g) (T : Top p loose mean mg mb g) (hd : dep < 600) (hu : un < 200) (F : Fr g L s.heap m) {H Tl : Addr} {hv tv : List Value} {n nt : Nat} {oC oPr oPs : Obj} {rest : Led} (N : News g L s.heap (led5 H Tl L hv tv n nt oC oPr oPs rest)) (ap : Ap H Tl L rest) {c pa : Addr} {cv pv : List Value} {q : Nat} {ch ps : List Int} {pr : Int} {u : Tok} (hC : oC.data = .cell (some (.ref c))) (hPr : oPr.data = .cell (some (.int pr u))) (hPs : oPs.data = .cell (some (.ref pa)))
 (hc : (c, tupOf cv) ∈ rest) (hi : IntsAre cv ch) (hs : ch ∈ subsL) (hpa : (pa, listOf pv.toArray q) ∈ rest) (hp : IntsAre pv ps) (hpl : ps.length = 4) {Q : Flow → Shared → Prop}
 (h : ∀ h' tk dr D ls ex, Fr g L h' (fun y => if y = Str.ofString "longer" then some (.ref D) else m y) → News g L h' (led5 H Tl L hv tv n nt oC oPr oPs ((D, lst ls) :: (ex ++ rest))) → Ap H Tl L ((D, lst ls) :: (ex ++ rest)) → KeysIn (ex ++ rest) ls (childs ps pr ch 4) → wpAny (model PySem.Challenge.rw_nq0047_02.row.prog w) (sAr dep env0 outer gs un L) (execs (sTurn 3) (sEnv L)) Q NoE { s with heap := h', toks := tk, drawn := dr }) :
 wpAny (model PySem.Challenge.rw_nq0047_02.row.prog w) (sAr dep env0 outer gs un L) (execs (sTurn 2) (sEnv L)) Q NoE s := by
  revert h
  revert X
  k_fill
  intro X
  dsimp only [sAr, sTurn, sTail, sEnv, topS, PySem.Challenge.pw_nq0047_02, nth, fnBody, fnScope, whBody, List.drop]
  intro h
  try k_fold
  obtain ⟨f1, f2, f3⟩ := subs_facts ch hs
  walk1
  refine comp_assign (h₀ := g) (L := L) ?_ rfl ?_ rfl ?_ ?_
  · with_unfolding_all rfl
  · decide
  · decide
  walk_at "m on"
  rename_i hrg Frg Nrg _
  refine iter_range (n := 4) Frg Nrg hrg (by decide +kernel) (by decide +kernel) ?_
  intro h12 I12 own12 F12 N12 off12 ok12
  k_sweep
  refine csrcN (nextOk_range rfl) self_range F12 N12 off12 ok12 (J2 g L H Tl hv tv n nt oC oPr oPs rest ps pr ch) (by decide) ?_ ⟨[], rfl, ap, ⟨rfl, fun i hi => absurd hi (by simp [childs])⟩⟩ (fun _ _ _ h => h.2) rfl rfl ?_ ?_
  · rintro i ys nw ⟨ex, rfl, _, hk⟩
    rw [hk.1]; unfold childs; rw [List.length_map]; exact Nat.le_trans (List.length_filter_le _ _) (by simp)
  · rintro i v ys nw own C oCc D mC h2 tk2 dr2 hi4 ⟨⟨t3, rfl⟩, _⟩ ⟨ex, rfl, apx, hk⟩ offc hown hCD hoC F3 N3 ok3
    k_sweep
    replace ok3 := ok3
    unfold ROk at ok3
    subst ok3
    have hc2 : (c, tupOf cv) ∈ ex ++ rest := List.mem_append.mpr (.inr hc)
    have hpa2 : (pa, listOf pv.toArray q) ∈ ex ++ rest := List.mem_append.mpr (.inr hpa)
    obtain ⟨tp, htp⟩ := hp.get i (ps.getD i 0) (by rw [List.getElem?_eq_getElem (by omega)]; simp [show i < ps.length by omega])
    have htp2 : pv[((0 : Int) + (i : Nat)).toNat]? = some (.int (ps.getD i 0) tp) := by rw [show ((0 : Int) + (i : Nat)).toNat = i by omega]; exact htp
    obtain ⟨oI, hoI⟩ : ∃ oI : Obj, oI = { cls := .type "range_iterator", dict := none, data := .fields #[rawInt ((0 : Int) + ((i + 1 : Nat))), rawInt (((4 : Nat) : Int) - ((i + 1 : Nat))), rawInt 1], slots := #[] } := ⟨_, rfl⟩
    rw [← hoI] at N3
    have hoI2 : ∀ nw, ROk I12 0 4 (i + 1) [(I12, oI)] nw := fun nw => by unfold ROk; rw [hoI]
    replace N3 : News g L h2 ((C, oCc) :: (D, lst ys) :: (I12, oI) :: (H, listOf hv.toArray n) :: (Tl, listOf tv.toArray nt) :: (L + 1 + 1 + 1, oC) :: (L + 1 + 1, oPr) :: (L + 1, oPs) :: (ex ++ rest)) := news_sub N3 (by walk_at "m sub")
    generalize hbag : ex ++ rest = bag at N3 hc2 hpa2 apx hk
    refine wpAny_tests_one ?_
    walk_at "m cmp"
    rename_i E4 h4 F4 N4 l4
    refine rc_tups ⟨cv, ⟨_, (N4 (c, tupOf cv) (.tail _ (by walk_at "m mem"))).1, rfl, _, rfl⟩, hi⟩ ⟨[], ⟨_, (N4 _ (.head _)).1, rfl, _, rfl⟩, .nil⟩ ?_ _ _ _ _ ?_
    · show un + 3 < 9900; omega
    replace N4 := news_tail N4
    clear l4
    by_cases e0 : ch = []
    · subst e0
      cases hi
      rw [beq_self_eq_true]
      walk_at "m cmp"
      rename_i T9 h8 l8 P9 h9 F9 N9 l9
      subst hbag
      refine t2_end (new := [_, _]) F9 N9 hoC hoI2 offc apx hk (.head _) (.tail _ (.head _)) (.cons _ _ .nil) rfl ?_ rfl
      intro q hq
      simp only [List.mem_cons, List.not_mem_nil, or_false] at hq
      rcases hq with rfl | rfl <;> dsimp only <;> omega
    · have hne : cv ≠ [] := fun e => by subst e; cases hi; exact e0 rfl
      have hcl : cv.length < 1000 := by rw [hi.length]; omega
      rw [show (ch == []) = false by simpa using e0]
      walk_at "m cs"
      refine item_last (ch := ch) N4 (by walk_at "m mem") hi e0 (by omega) ?_
      intro t7
      walk_at "m cmp"
      · rename_i hgt T7 h7 l7 T9 h8 l8 P9 h9 F9 N9 l9
        subst hbag
        refine t2_end (new := [_, _, _]) F9 N9 hoC hoI2 offc apx hk (.head _) (.tail _ (.head _)) (hi.append (.cons _ _ .nil)) (by rw [goes_ne e0]; exact decide_eq_true (by omega)) ?_ rfl
        intro q hq
        simp only [List.mem_cons, List.not_mem_nil, or_false] at hq
        rcases hq with rfl | rfl | rfl <;> dsimp only <;> omega
      · rename_i hgt
        subst hbag
        refine ⟨_, _, _, [(I12, oI)], oCc, _, led5 H Tl L hv tv n nt oC oPr oPs (ex ++ rest), rfl, F4, hoC, news_sub N4 (by walk_at "m sub"), offc, hoI2 _, ex, rfl, apx, ?_⟩
        rw [childs_step, if_neg (by rw [goes_ne e0]; simp only [decide_eq_true_eq]; omega), List.append_nil]
        exact hk
  · rintro D C oCc mC h11 tk11 dr11 ls nw F11 hoC N11 hCD off11 ⟨ex, rfl, apx, hk⟩
    unfold FinS
    intro hne12 off12 F12' N12'
    k_sweep
    refine wpAny_assign_Name ?_
    walk1
    rename_i h13 F13 N13
    refine ⟨_, _, _, _, rfl, F13, N13, ?_, ?_⟩
    · intro p hp
      rcases List.mem_cons.mp hp with rfl | hp
      · exact Ne.symm hne12
      · exact (off12 p hp).1
    clear F13 N13
    intro h14 F14 N14
    dsimp only
    have nd := fun p hp => (off12 p hp).2
    exact h _ _ _ D ls ex F14 (led5_new N14) (apx.cons (nd _ (.head _)) (nd _ (.tail _ (.head _))) (nd _ (.tail _ (.tail _ (.tail _ (.tail _ (.head _)))))) (nd _ (.tail _ (.tail _ (.tail _ (.head _))))) (nd _ (.tail _ (.tail _ (.head _))))) hk
end Mine
end
section
open PySem PySem.W PyProof.Rows PySem.Calls
set_option Elab.async false
namespace Mine
theorem set_back_MMap2 : True := by w_top off; trivial
section
variable {γ : Type} {lt : γ → γ → Bool}
theorem sdn_mem {x v : γ} : ∀ (pos : Nat) (xs : List γ), v ∈ sdn lt x xs pos → v ∈ xs ∨ v = x := by
  intro pos
  induction pos using Nat.strongRecOn with
  | ind pos ih =>
    intro xs h
    rw [sdn] at h
    split at h
    · exact List.mem_or_eq_of_mem_set h
    · split at h
      · rename_i p hp
        split at h
        · rcases ih _ (by omega) _ h with h | h
          · rcases List.mem_or_eq_of_mem_set h with h | h
            · exact .inl h
            · exact .inl (h ▸ List.mem_of_getElem? hp)
          · exact .inr h
        · exact List.mem_or_eq_of_mem_set h
      · exact List.mem_or_eq_of_mem_set h
theorem sup_mem {v : γ} : ∀ (k : Nat) (xs : List γ) (pos : Nat), xs.length - pos = k → v ∈ (sup lt xs pos).1 → v ∈ xs := by
  intro k
  induction k using Nat.strongRecOn with
  | ind k ih =>
    intro xs pos hk h
    have step : ∀ j c, xs[j]? = some c → pos < j → v ∈ (sup lt (xs.set pos c) j).1 → v ∈ xs := by
      intro j c hc hj hv
      have lj := (List.getElem?_eq_some_iff.mp hc).1
      rcases List.mem_or_eq_of_mem_set (ih (xs.length - j) (by omega) (xs.set pos c) j (by simp) hv) with h | h
      · exact h
      · exact h ▸ List.mem_of_getElem? hc
    cases h1 : xs[2 * pos + 1]? with
    | none => rw [sup_end _ h1] at h; exact h
    | some l =>
      cases h2 : xs[2 * pos + 1 + 1]? with
      | none => rw [sup_one _ h1 h2] at h; exact step _ _ h1 (by omega) h
      | some r =>
        cases hl : lt l r with
        | true => rw [sup_left _ h1 h2 hl] at h; exact step _ _ h1 (by omega) h
        | false => rw [sup_right _ h1 h2 hl] at h; exact step _ _ h2 (by omega) h
theorem siftup_mem {x v : γ} {xs : List γ} (h : v ∈ siftupP lt x xs) : v ∈ xs ∨ v = x := by
  unfold siftupP at h
  rcases sdn_mem _ _ h with h | h
  · rcases List.mem_or_eq_of_mem_set h with h | h
    · exact .inl (sup_mem _ _ _ rfl h)
    · exact .inr h
  · exact .inr h
theorem pop_mem {x v : γ} {xs : List γ} (h : v ∈ (popP lt xs x).2) : v ∈ xs ++ [x] := by
  cases xs with
  | nil => cases h
  | cons y r =>
    rcases siftup_mem h with h | h
    · rcases List.mem_cons.mp h with h | h
      · simp [h]
      · simp [h]
    · simp [h]
theorem pushes_mem {v : γ} (ls : List γ) : ∀ xs, v ∈ pushes lt xs ls → v ∈ xs ∨ v ∈ ls := by
  induction ls with
  | nil => intro xs h; exact .inl h
  | cons x r ih =>
    intro xs h
    rcases ih _ h with h | h
    · rcases sdn_mem _ _ h with h | h
      · rcases List.mem_append.mp h with h | h
        · exact .inl h
        · exact .inr (by simp at h; simp [h])
      · exact .inr (by simp [h])
    · exact .inr (.tail _ h)
end
open Classical in
noncomputable def kfOf (led : Led) (v : Value) : Key := if h : ∃ k, KeyIn led v k then h.choose else (0, [])
theorem kf_eq {led : Led} {hp : Heap} (hh : ∀ p ∈ led, hp.get? p.1 = some p.2) {v : Value} {k : Key} (h : KeyIn led v k) : kfOf led v = k := by
  have e : ∃ k, KeyIn led v k := ⟨k, h⟩
  unfold kfOf
  rw [dif_pos e]
  exact (e.choose_spec.at hh).one (h.at hh)
theorem kf_in {led : Led} {v : Value} (h : ∃ k, KeyIn led v k) : KeyIn led v (kfOf led v) := by
  unfold kfOf
  rw [dif_pos h]
  exact h.choose_spec
theorem KeysIn.has {led : Led} {vs : List Value} {ks : List Key} (h : KeysIn led vs ks) : ∀ v ∈ vs, ∃ k, KeyIn led v k := by
  intro v hv
  obtain ⟨i, hi, e⟩ := List.getElem_of_mem hv
  obtain ⟨u, hu, hk⟩ := h.2 i (by rw [← h.1]; exact hi)
  rw [List.getElem?_eq_getElem hi, e] at hu
  cases hu
  exact ⟨_, hk⟩
theorem KeysIn.map {led : Led} {hp : Heap} (hh : ∀ p ∈ led, hp.get? p.1 = some p.2) {vs : List Value} {ks : List Key} (h : KeysIn led vs ks) : vs.map (kfOf led) = ks := by
  apply List.ext_getElem (by rw [List.length_map, h.1])
  intro i h1 h2
  obtain ⟨u, hu, hk⟩ := h.2 i h2
  rw [List.length_map] at h1
  rw [List.getElem?_eq_getElem h1] at hu
  rw [List.getElem_map, Option.some.inj hu]
  exact kf_eq hh hk
theorem KeysIn.of {led : Led} {vs : List Value} (h : ∀ v ∈ vs, ∃ k, KeyIn led v k) : KeysIn led vs (vs.map (kfOf led)) := by
  refine ⟨by rw [List.length_map], fun i hi => ?_⟩
  rw [List.length_map] at hi
  exact ⟨vs[i], List.getElem?_eq_getElem hi, by rw [List.getElem_map]; exact kf_in (h _ (List.getElem_mem hi))⟩
theorem cmpOk_led {w : World} {r5 rest : Led} {vs : List Value} (hs : ∀ p ∈ rest, p ∈ r5) (h : ∀ v ∈ vs, ∃ k, KeyIn rest v k) : CmpOk w r5 vs (ltf (kfOf rest) ltK) :=
  cmpOk_keys fun v hv hp hh => (kf_in (h v hv)).at fun p hp => hh p (hs p hp)
end Mine
end
section
open PySem PySem.W PyProof.Rows PySem.Calls
set_option Elab.async false
set_option maxRecDepth 100000
set_option maxHeartbeats 8000000
namespace Mine
theorem set_back_MHeap2 : True := by w_top off; trivial
theorem words_MHeap2 : True := by
  k_with_none
  k_with "m enter" => ((   (case kA => assumption); (case kF => assumption); (case kK => assumption); (case k1 => assumption); (case k2 => assumption); (case k3 => assumption); (case k4 => assumption); (case k5 => assumption);   (case k6 => k_is); (case k7 => k_is); (case k8 => k_room); (case k9 => exact BindsTo.of_eq rfl); (case c5 => decide); (case kB => exact locs rfl); (case c2 => exact rfl); (case c3 => exact rfl); (case c4 => exact rfl)))
  k_with "m get" => ((repeat (first | assumption | exact get_eq | refine get_ne (by decide) ?_ | rfl)))
  k_with "eval Name" => ((k_here; k_dflt (refine' ld ?z9k1 ?z9k2 ?_; (case z9k1 => k_asm); (case z9k2 => walk_at "m get"); k_whole)))
  k_with "m go" => ((repeat ((fail_if_success (with_reducible show WStep _ _ _ _ _ _)); first | walk1 | (dsimp only; walk1))))
  k_with "m to while" => ((repeat ((fail_if_success (with_reducible refine wpAny_While ?_)); first | walk1 | (dsimp only; walk1))))
  k_with "subscriptTail" => (((with_reducible show wpAny _ _ (subscriptTail _ _ (Value.ref _) (Value.int _ _)) _ _ _); (refine' item_h ?z9k1 ?z9k2 ?z9k3 ?z9k4 ?_; (case z9k1 => assumption); (case z9k2 => omega); (case z9k3 => omega); (case z9k4 => assumption); k_whole)))
  k_with "setItem ref int" => ((((with_reducible show wpAny _ _ (setItem (Value.ref _) (Value.int _ _) _) _ _ _); (refine' setItem_h ?z9k1 ?z9k2 ?z9k3 ?z9k4 ?z9k5 ?z9k6 ?_; (case z9k1 => assumption); (case z9k2 => assumption); (case z9k3 => assumption); (case z9k4 => omega); (case z9k5 => assumption); (case z9k6 => omega); k_whole); intro h' F' N'); revert h' F' N'; intro _ _ _))
  k_with "call builtin:len" => (((with_reducible show wpAny _ _ (call (Value.builtin _) [Value.ref _]) _ _ _); (refine' len_h ?z9k1 ?z9k2 ?_; (case z9k1 => assumption); (case z9k2 => first | assumption | (simp only [List.length_append, List.length_cons, List.length_nil]; omega)); k_whole)))
  k_with "call builtin:list.append" => ((((with_reducible show wpAny _ _ (call (Value.builtin _) [Value.ref _, _]) _ _ _); (refine' append_h ?z9k1 ?z9k2 ?z9k3 ?z9k4 ?_; (case z9k1 => assumption); (case z9k2 => assumption); (case z9k3 => assumption); (case z9k4 => omega); k_whole); intro h' F' N'); revert h' F' N'; intro _ _ _))
  k_with "call builtin:list.pop" => ((((with_reducible show wpAny _ _ (call (Value.builtin _) [Value.ref _]) _ _ _); (refine' pop_h ?z9k1 ?z9k2 ?z9k3 ?z9k4 ?_; (case z9k1 => assumption); (case z9k2 => assumption); (case z9k3 => assumption); (case z9k4 => omega); k_whole); intro h' F' N'); revert h' F' N'; intro _ _ _))
  trivial
theorem cst1 (k : Nat) : ((2 * k + 1 : Nat) : Int) + 1 = ((2 * k + 1 + 1 : Nat) : Int) := by omega
theorem cst2 (k : Nat) : 2 * (k : Int) + 1 = ((2 * k + 1 : Nat) : Int) := by omega
theorem siftup_K {w : World} {A A₀ : Around} {s : Shared} {h₀ base : Heap} {outer : List Env} {L : Addr} {m mg mb : Str → Option Value} {mean : ExcName → Option Value} {p : Program} {loose : List Str} {rest : List (Addr × Obj)} {env : Env} {R : Result → Shared → Prop}
 {a : Addr} {xs : List Value} {x : Value} {lt : Value → Value → Bool} {n : Nat} {t1 : Tok}
 (B : Below A₀ base outer h₀) (F : Fr h₀ L s.heap m) (X₀ : (Mine.hd.heap_1 w.params).In h₀) (N : News h₀ L s.heap ((a, listOf xs.toArray n) :: rest)) (T : Top p loose mean mg mb h₀) (hA : A.frames = some (env :: outer)) (hf : env.frame = some L) (hke : env.scope.kind = .function)
 (hd : A.depth < 800) (hu : A.units < 400) (hrest : ∀ p ∈ rest, p.1 ≠ a) (hx : xs[0]? = some x) (hlen : xs.length < 1000) (hc : CmpOk w rest xs lt)
 (h : ∀ h' t', Fr h₀ L h' m → News h₀ L h' ((a, listOf (siftupP lt x xs).toArray n) :: rest) → R (.ok (.ret .none)) { s with heap := h', toks := t' }) :
 codeAny (model PySem.Challenge.rw_nq0047_02.row.prog w) A (.call (.ref 56) ⟨[.ref a, .int 0 t1], []⟩) R s := by
  revert X₀
  k_fill
  intro X₀
  have hpos : 0 < xs.length := (List.getElem?_eq_some_iff.mp hx).1
  have hxm : x ∈ xs := List.mem_of_getElem? hx
  refine' code_def (binds := [(Str.ofString "heap", .ref a), (Str.ofString "pos", .int 0 t1)]) ?k1 ?k2 ?k3 ?k4 ?k5 ?kA ?kF ?kK ?k6 ?k7 ?k8 ?k9 ?kB ?_ ?c2 ?c3 ?c4 ?c5
  walk_at "m enter"
  intro g' L' h' FG' F' N' B' X' T'
  clear F N B X₀ T
  refine wpAny_noRaise ?_
  k_fold
  iterate 9 (first | walk1 | (dsimp only; walk1))
  refine len_h N' hlen ?_
  iterate 11 (first | walk1 | (dsimp only; walk1))
  refine item_h (by assumption) (by omega) (by omega) hx ?_
  walk_at "m to while"
  refine whl_ind (fun (c : List Value × Nat) s' => ∃ h tk m, s' = { s with heap := h, toks := tk } ∧ Fr g' L' h m ∧ News g' L' h ((a, listOf c.1.toArray n) :: rest) ∧ m (Str.ofString "heap") = some (.ref a) ∧ (∃ t, m (Str.ofString "startpos") = some (.int 0 t)) ∧ (∃ t, m (Str.ofString "pos") = some (.int c.2 t)) ∧ (∃ t, m (Str.ofString "childpos") = some (.int ((2 * c.2 + 1 : Nat) : Int) t)) ∧ (∃ t, m (Str.ofString "endpos") = some (.int xs.length t)) ∧ m (Str.ofString "newitem") = some x ∧ c.2 < c.1.length ∧ c.1.length = xs.length ∧ (∀ v ∈ c.1, v ∈ xs) ∧ sup lt c.1 c.2 = sup lt xs 0) (fun c => xs.length - c.2) PassesOwn.never ?_ (xs, 0) ?_
  · rintro ⟨ys, k⟩ s' ⟨h1, tk1, m1, rfl, F1, N1, e1, ⟨t3, e2⟩, ⟨t4, e3⟩, ⟨t5, e4⟩, ⟨t6, e5⟩, e6, hk, hl, hin, hs⟩
    dsimp only at *
    by_cases hk0 : 2 * k + 1 < ys.length
    · obtain ⟨l, hpl⟩ : ∃ l, ys[2 * k + 1]? = some l := ⟨ys[2 * k + 1], by simp [hk0]⟩
      iterate 5 walk1
      refine ite_pos (by simp; omega) ?_
      iterate 6 walk1
      rw [cst1]
      iterate 5 walk1
      by_cases hk2 : 2 * k + 1 + 1 < ys.length
      · obtain ⟨r, hpr⟩ : ∃ r, ys[2 * k + 1 + 1]? = some r := ⟨ys[2 * k + 1 + 1], by simp [hk2]⟩
        walk_at "m go"
        refine hc l (hin l (List.mem_of_getElem? hpl)) r (hin r (List.mem_of_getElem? hpr)) _ _ _ _ ?_ ?_ ?_
        · show A.units + 3 < 900; omega
        · rename_i N9
          exact fun q hq => (N9 q (.tail _ hq)).1
        cases hlt : lt l r with
        | true =>
          walk_at "m go"
          rename_i h3 F3 N3
          refine ⟨(ys.set k l, 2 * k + 1), by dsimp only; omega, h3, _, _, rfl, F3, N3, ?_, ?_, ?_, ?_, ?_, ?_, ?_, ?_, ?_, ?_⟩
          · walk_at "m get"
          · exact ⟨t3, by walk_at "m get"⟩
          · exact ⟨_, by walk_at "m get"⟩
          · refine ⟨?_, ?_⟩; rotate_left; rw [← cst2]; walk_at "m get"
          · exact ⟨t6, by walk_at "m get"⟩
          · walk_at "m get"
          · dsimp only; rw [List.length_set]; omega
          · dsimp only; rw [List.length_set]; exact hl
          · intro u hu'
            rcases List.mem_or_eq_of_mem_set hu' with hu' | rfl
            · exact hin u hu'
            · exact hin _ (List.mem_of_getElem? hpl)
          · rw [← hs, sup_left lt hpl hpr hlt]
        | false =>
          walk_at "m go"
          rename_i h3 F3 N3
          refine ⟨(ys.set k r, 2 * k + 1 + 1), by dsimp only; omega, h3, _, _, rfl, F3, N3, ?_, ?_, ?_, ?_, ?_, ?_, ?_, ?_, ?_, ?_⟩
          · walk_at "m get"
          · exact ⟨t3, by walk_at "m get"⟩
          · exact ⟨_, by walk_at "m get"⟩
          · refine ⟨?_, ?_⟩; rotate_left; rw [← cst2]; walk_at "m get"
          · exact ⟨t6, by walk_at "m get"⟩
          · walk_at "m get"
          · dsimp only; rw [List.length_set]; omega
          · dsimp only; rw [List.length_set]; exact hl
          · intro u hu'
            rcases List.mem_or_eq_of_mem_set hu' with hu' | rfl
            · exact hin u hu'
            · exact hin _ (List.mem_of_getElem? hpr)
          · rw [← hs, sup_right lt hpl hpr hlt]
      · have hpr : ys[2 * k + 1 + 1]? = none := by simp; omega
        walk_at "m go"
        rename_i h3 F3 N3
        refine ⟨(ys.set k l, 2 * k + 1), by dsimp only; omega, h3, _, _, rfl, F3, N3, ?_, ?_, ?_, ?_, ?_, ?_, ?_, ?_, ?_, ?_⟩
        · walk_at "m get"
        · exact ⟨t3, by walk_at "m get"⟩
        · exact ⟨_, by walk_at "m get"⟩
        · refine ⟨?_, ?_⟩; rotate_left; rw [← cst2]; walk_at "m get"
        · exact ⟨t6, by walk_at "m get"⟩
        · walk_at "m get"
        · dsimp only; rw [List.length_set]; omega
        · dsimp only; rw [List.length_set]; exact hl
        · intro u hu'
          rcases List.mem_or_eq_of_mem_set hu' with hu' | rfl
          · exact hin u hu'
          · exact hin _ (List.mem_of_getElem? hpl)
        · rw [← hs, sup_one lt hpl hpr]
    · have hpl : ys[2 * k + 1]? = none := by simp; omega
      iterate 5 walk1
      refine ite_neg (by simp; omega) ?_
      iterate 5 (first | walk1 | (dsimp only; walk1))
      refine setItem_h (by assumption) (by assumption) hrest (by omega) hk (by omega) ?_
      intro h2 F2 N2
      iterate 13 (first | walk1 | (dsimp only; walk1))
      refine wpAny_call ?_
      refine siftdown_K (lt := lt) (x := x) (pos := k) (by assumption) (by assumption) (by assumption) (by assumption) (by assumption) (Around.frames_deeper hA) (by exact rfl) (by exact rfl) ?_ ?_ hrest ?_ ?_ ?_ ?_
      · k_room
      · show A.units + 3 < 500; omega
      · simp [hk]
      · rw [List.length_set]; omega
      · intro v hv u hu'
        refine hc v ?_ u ?_
        · rcases List.mem_or_eq_of_mem_set hv with hv | rfl
          · exact hin v hv
          · exact hxm
        · rcases List.mem_or_eq_of_mem_set hu' with hv | rfl
          · exact hin u hv
          · exact hxm
      intro h3 t3 F3 N3
      iterate 1 (first | walk1 | (dsimp only; walk1))
      refine leaveK_ F3 N3 fun kF kN => h _ _ kF ?_
      unfold siftupP
      rw [← hs, sup_end lt hpl]
      exact kN
  · rename_i h3 F3 N3
    refine ⟨h3, _, _, rfl, F3, N3, ?_, ?_, ?_, ?_, ?_, ?_, hpos, rfl, fun _ h => h, rfl⟩
    · walk_at "m get"
    · exact ⟨t1, by walk_at "m get"⟩
    · exact ⟨t1, by walk_at "m get"⟩
    · exact ⟨_, by walk_at "m get"⟩
    · exact ⟨_, by walk_at "m get"⟩
    · walk_at "m get"
end Mine
end
section
open PySem PySem.W PyProof.Rows PySem.Calls
set_option Elab.async false
set_option maxRecDepth 100000
set_option maxHeartbeats 8000000
namespace Mine
theorem set_back_MHeap3 : True := by w_top off; trivial
theorem words_MHeap3 : True := by
  k_with_none
  k_with "m enter" => ((   (case kA => assumption); (case kF => assumption); (case kK => assumption); (case k1 => assumption); (case k2 => assumption); (case k3 => assumption); (case k4 => assumption); (case k5 => assumption);   (case k6 => k_is); (case k7 => k_is); (case k8 => k_room); (case k9 => exact BindsTo.of_eq rfl); (case c5 => decide); (case kB => exact locs rfl); (case c2 => exact rfl); (case c3 => exact rfl); (case c4 => exact rfl)))
  k_with "m get" => ((repeat (first | assumption | exact get_eq | refine get_ne (by decide) ?_ | rfl)))
  k_with "eval Name" => ((k_here; k_dflt (refine' ld ?z9k1 ?z9k2 ?_; (case z9k1 => k_asm); (case z9k2 => walk_at "m get"); k_whole)))
  k_with "m go" => ((repeat ((fail_if_success (with_reducible show WStep _ _ _ _ _ _)); first | walk1 | (dsimp only; walk1))))
  k_with "subscriptTail" => (((with_reducible show wpAny _ _ (subscriptTail _ _ (Value.ref _) (Value.int _ _)) _ _ _); (refine' item_h ?z9k1 ?z9k2 ?z9k3 ?z9k4 ?_; (case z9k1 => assumption); (case z9k2 => omega); (case z9k3 => omega); (case z9k4 => assumption); k_whole)))
  k_with "setItem ref int" => ((((with_reducible show wpAny _ _ (setItem (Value.ref _) (Value.int _ _) _) _ _ _); (refine' setItem_h ?z9k1 ?z9k2 ?z9k3 ?z9k4 ?z9k5 ?z9k6 ?_; (case z9k1 => assumption); (case z9k2 => assumption); (case z9k3 => assumption); (case z9k4 => omega); (case z9k5 => assumption); (case z9k6 => omega); k_whole); intro h' F' N'); revert h' F' N'; intro _ _ _))
  k_with "call builtin:len" => (((with_reducible show wpAny _ _ (call (Value.builtin _) [Value.ref _]) _ _ _); (refine' len_h ?z9k1 ?z9k2 ?_; (case z9k1 => assumption); (case z9k2 => first | assumption | (simp only [List.length_append, List.length_cons, List.length_nil]; omega)); k_whole)))
  k_with "call builtin:list.append" => ((((with_reducible show wpAny _ _ (call (Value.builtin _) [Value.ref _, _]) _ _ _); (refine' append_h ?z9k1 ?z9k2 ?z9k3 ?z9k4 ?_; (case z9k1 => assumption); (case z9k2 => assumption); (case z9k3 => assumption); (case z9k4 => omega); k_whole); intro h' F' N'); revert h' F' N'; intro _ _ _))
  k_with "call builtin:list.pop" => ((((with_reducible show wpAny _ _ (call (Value.builtin _) [Value.ref _]) _ _ _); (refine' pop_h ?z9k1 ?z9k2 ?z9k3 ?z9k4 ?_; (case z9k1 => assumption); (case z9k2 => assumption); (case z9k3 => assumption); (case z9k4 => omega); k_whole); intro h' F' N'); revert h' F' N'; intro _ _ _))
  trivial
theorem heapreplace_K {w : World} {A A₀ : Around} {s : Shared} {h₀ base : Heap} {outer : List Env} {L : Addr} {m mg mb : Str → Option Value} {mean : ExcName → Option Value} {p : Program} {loose : List Str} {rest : List (Addr × Obj)} {env : Env} {R : Result → Shared → Prop}
 {a : Addr} {xs : List Value} {x y : Value} {lt : Value → Value → Bool} {n : Nat}
 (B : Below A₀ base outer h₀) (F : Fr h₀ L s.heap m) (X₀ : (Mine.hd.heap_1 w.params).In h₀) (N : News h₀ L s.heap ((a, listOf xs.toArray n) :: rest)) (T : Top p loose mean mg mb h₀) (hA : A.frames = some (env :: outer)) (hf : env.frame = some L) (hke : env.scope.kind = .function)
 (hd : A.depth < 700) (hu : A.units < 300) (hrest : ∀ p ∈ rest, p.1 ≠ a) (hy : xs[0]? = some y) (hlen : xs.length < 1000) (hc : CmpOk w rest (xs.set 0 x) lt)
 (h : ∀ h' t', Fr h₀ L h' m → News h₀ L h' ((a, listOf (siftupP lt x (xs.set 0 x)).toArray n) :: rest) → R (.ok (.ret y)) { s with heap := h', toks := t' }) :
 codeAny (model PySem.Challenge.rw_nq0047_02.row.prog w) A (.call (.ref 42) ⟨[.ref a, x], []⟩) R s := by
  revert X₀
  k_fill
  intro X₀
  have hpos : 0 < xs.length := (List.getElem?_eq_some_iff.mp hy).1
  refine' code_def (binds := [(Str.ofString "heap", .ref a), (Str.ofString "item", x)]) ?k1 ?k2 ?k3 ?k4 ?k5 ?kA ?kF ?kK ?k6 ?k7 ?k8 ?k9 ?kB ?_ ?c2 ?c3 ?c4 ?c5
  walk_at "m enter"
  intro g' L' h' FG' F' N' B' X' T'
  clear F N B X₀ T
  refine wpAny_noRaise ?_
  k_fold
  walk_at "m go"
  refine wpAny_call ?_
  refine siftup_K (lt := lt) (x := x) (by assumption) (by assumption) (by assumption) (by assumption) (by assumption) (Around.frames_deeper hA) (by exact rfl) (by exact rfl) ?_ ?_ hrest ?_ ?_ ?_ ?_
  · k_room
  · show A.units + 3 < 400; omega
  · simp [hpos]
  · rw [List.length_set]; exact hlen
  · exact hc
  intro h3 t3 F3 N3
  iterate 3 (first | walk1 | (dsimp only; walk1))
  exact leaveK_ F3 N3 fun kF kN => h _ _ kF kN
theorem heappush_K {w : World} {A A₀ : Around} {s : Shared} {h₀ base : Heap} {outer : List Env} {L : Addr} {m mg mb : Str → Option Value} {mean : ExcName → Option Value} {p : Program} {loose : List Str} {rest : List (Addr × Obj)} {env : Env} {R : Result → Shared → Prop}
 {a : Addr} {xs : List Value} {x : Value} {lt : Value → Value → Bool} {n : Nat}
 (B : Below A₀ base outer h₀) (F : Fr h₀ L s.heap m) (X₀ : (Mine.hd.heap_1 w.params).In h₀) (N : News h₀ L s.heap ((a, listOf xs.toArray n) :: rest)) (T : Top p loose mean mg mb h₀) (hA : A.frames = some (env :: outer)) (hf : env.frame = some L) (hke : env.scope.kind = .function)
 (hd : A.depth < 700) (hu : A.units < 300) (hrest : ∀ p ∈ rest, p.1 ≠ a) (hlen : xs.length < 900) (hc : CmpOk w rest (xs ++ [x]) lt)
 (h : ∀ h' t' n', Fr h₀ L h' m → News h₀ L h' ((a, listOf (sdn lt x (xs ++ [x]) xs.length).toArray n') :: rest) → R (.ok (.ret .none)) { s with heap := h', toks := t' }) :
 codeAny (model PySem.Challenge.rw_nq0047_02.row.prog w) A (.call (.ref 28) ⟨[.ref a, x], []⟩) R s := by
  revert X₀
  k_fill
  intro X₀
  refine' code_def (binds := [(Str.ofString "heap", .ref a), (Str.ofString "item", x)]) ?k1 ?k2 ?k3 ?k4 ?k5 ?kA ?kF ?kK ?k6 ?k7 ?k8 ?k9 ?kB ?_ ?c2 ?c3 ?c4 ?c5
  walk_at "m enter"
  intro g' L' h' FG' F' N' B' X' T'
  clear F N B X₀ T
  refine wpAny_noRaise ?_
  k_fold
  walk_at "m go"
  rw [show ((xs ++ [x]).length : Int) - 1 = (xs.length : Int) by simp only [List.length_append, List.length_cons, List.length_nil]; omega]
  refine wpAny_call ?_
  refine siftdown_K (lt := lt) (x := x) (by assumption) (by assumption) (by assumption) (by assumption) (by assumption) (Around.frames_deeper hA) (by exact rfl) (by exact rfl) ?_ ?_ hrest ?_ ?_ hc ?_
  · k_room
  · show A.units + 3 < 500; omega
  · simp
  · simp only [List.length_append, List.length_cons, List.length_nil]; omega
  intro h3 t3 F3 N3
  iterate 1 (first | walk1 | (dsimp only; walk1))
  exact leaveK_ F3 N3 fun kF kN => h _ _ _ kF kN
theorem heappop_K {w : World} {A A₀ : Around} {s : Shared} {h₀ base : Heap} {outer : List Env} {L : Addr} {m mg mb : Str → Option Value} {mean : ExcName → Option Value} {p : Program} {loose : List Str} {rest : List (Addr × Obj)} {env : Env} {R : Result → Shared → Prop}
 {a : Addr} {xs : List Value} {x : Value} {lt : Value → Value → Bool} {n : Nat}
 (B : Below A₀ base outer h₀) (F : Fr h₀ L s.heap m) (X₀ : (Mine.hd.heap_1 w.params).In h₀) (N : News h₀ L s.heap ((a, listOf (xs ++ [x]).toArray n) :: rest)) (T : Top p loose mean mg mb h₀) (hA : A.frames = some (env :: outer)) (hf : env.frame = some L) (hke : env.scope.kind = .function)
 (hd : A.depth < 700) (hu : A.units < 300) (hrest : ∀ p ∈ rest, p.1 ≠ a) (hlen : xs.length < 900) (hc : CmpOk w rest (xs ++ [x]) lt)
 (h : ∀ h' t' n', Fr h₀ L h' m → News h₀ L h' ((a, listOf (popP lt xs x).2.toArray n') :: rest) → R (.ok (.ret (popP lt xs x).1)) { s with heap := h', toks := t' }) :
 codeAny (model PySem.Challenge.rw_nq0047_02.row.prog w) A (.call (.ref 35) ⟨[.ref a], []⟩) R s := by
  revert X₀
  k_fill
  intro X₀
  refine' code_def (binds := [(Str.ofString "heap", .ref a)]) ?k1 ?k2 ?k3 ?k4 ?k5 ?kA ?kF ?kK ?k6 ?k7 ?k8 ?k9 ?kB ?_ ?c2 ?c3 ?c4 ?c5
  walk_at "m enter"
  intro g' L' h' FG' F' N' B' X' T'
  clear F N B X₀ T
  refine wpAny_noRaise ?_
  k_fold
  rcases xs with _ | ⟨y, r⟩
  · walk_at "m go"
    exact leaveK_ (by assumption) (by assumption) fun kF kN => h _ _ _ kF kN
  · have hy : (y :: r)[0]? = some y := rfl
    have hpos : 0 < (y :: r).length := Nat.succ_pos _
    walk_at "m go"
    refine wpAny_call ?_
    refine siftup_K (lt := lt) (x := x) (xs := x :: r) (by assumption) (by assumption) (by assumption) (by assumption) (by assumption) (Around.frames_deeper hA) (by exact rfl) (by exact rfl) ?_ ?_ hrest rfl ?_ ?_ ?_
    · k_room
    · show A.units + 3 < 400; omega
    · simp only [List.length_cons] at hlen ⊢; omega
    · intro v hv u hu'
      refine hc v ?_ u ?_
      · rcases List.mem_cons.mp hv with rfl | hv
        · exact List.mem_append.mpr (.inr (.head _))
        · exact List.mem_append.mpr (.inl (.tail _ hv))
      · rcases List.mem_cons.mp hu' with rfl | hv
        · exact List.mem_append.mpr (.inr (.head _))
        · exact List.mem_append.mpr (.inl (.tail _ hv))
    intro h3 t3 F3 N3
    iterate 3 (first | walk1 | (dsimp only; walk1))
    exact leaveK_ F3 N3 fun kF kN => h _ _ _ kF kN
end Mine
end
section
open PySem PySem.W PyProof.Rows PySem.Calls
open PyProof.Rows.LCg (lst NsObj SrcAt)
open PySem.SeqAt
set_option Elab.async false
set_option maxRecDepth 100000
set_option maxHeartbeats 8000000
namespace Mine
theorem set_back_MTurn4 : True := by w_top off; trivial
theorem words_MTurn4 : True := by
  k_with_none
  k_with "m s0" => ((fail_if_success (with_reducible show WStep _ _ _ _ _ _)); (fail_if_success (with_reducible show wpAny _ _ (eval (Expr.ListComp _ _ _ _) _) _ _ _)); (fail_if_success (with_reducible show wpAny _ _ (exec (Stmt.For _ _ _ _ _) _) _ _ _)); (fail_if_success (with_reducible show wpAny _ _ (exec (Stmt.Assign _ (Expr.ListComp _ _ _ _) _ _) _) _ _ _)))
  k_with "m get" => ((repeat (first | assumption | exact get_eq | refine get_ne (by decide) ?_ | rfl)))
  k_with "eval Name" => (((with_reducible show wpAny _ _ (eval (Expr.Name _ _) (envOf _ _ _ _ _)) _ _ _); k_dflt (refine' ld ?z9k1 ?z9k2 ?_; (case z9k1 => k_asm); (case z9k2 => walk_at "m get"); k_whole)))
  k_with "subscriptTail" => (((with_reducible show wpAny _ _ (subscriptTail _ _ (Value.ref _) (Value.int _ _)) _ _ _); (refine' item_h ?z9k1 ?z9k2 ?z9k3 ?z9k4 ?_; (case z9k1 => assumption); (case z9k2 => omega); (case z9k3 => omega); (case z9k4 => assumption); k_whole)))
  k_with "setItem ref int" => ((((with_reducible show wpAny _ _ (setItem (Value.ref _) (Value.int _ _) _) _ _ _); (refine' setItem_h ?z9k1 ?z9k2 ?z9k3 ?z9k4 ?z9k5 ?z9k6 ?_; (case z9k1 => assumption); (case z9k2 => assumption); (case z9k3 => assumption); (case z9k4 => omega); (case z9k5 => assumption); (case z9k6 => omega); k_whole); intro h' F' N'); revert h' F' N'; intro _ _ _))
  k_with "call builtin:len" => (((with_reducible show wpAny _ _ (call (Value.builtin _) [Value.ref _]) _ _ _); (refine' len_h ?z9k1 ?z9k2 ?_; (case z9k1 => assumption); (case z9k2 => first | assumption | (simp only [List.length_append, List.length_cons, List.length_nil]; omega)); k_whole)))
  k_with "call builtin:list.append" => ((((with_reducible show wpAny _ _ (call (Value.builtin _) [Value.ref _, _]) _ _ _); (refine' append_h ?z9k1 ?z9k2 ?z9k3 ?z9k4 ?_; (case z9k1 => assumption); (case z9k2 => assumption); (case z9k3 => assumption); (case z9k4 => omega); k_whole); intro h' F' N'); revert h' F' N'; intro _ _ _))
  k_with "call builtin:list.pop" => ((((with_reducible show wpAny _ _ (call (Value.builtin _) [Value.ref _]) _ _ _); (refine' pop_h ?z9k1 ?z9k2 ?z9k3 ?z9k4 ?_; (case z9k1 => assumption); (case z9k2 => assumption); (case z9k3 => assumption); (case z9k4 => omega); k_whole); intro h' F' N'); revert h' F' N'; intro _ _ _))
  k_with "eval Name" => (((with_reducible show wpAny _ _ (eval (Expr.Name _ _) (compEnvC _ _ _ _)) _ _ _); k_dflt (refine' PySem.W.LCgL.ld_own ?z9k1 ?z9k2 ?z9k3 ?z9k4 ?_; (case z9k1 => k_asm); (case z9k2 => exact List.Mem.head _); (case z9k3 => assumption); (case z9k4 => walk_at "m get"); k_whole)))
  k_with "m mem" => (first | assumption | exact List.Mem.head _ | exact List.mem_append.mpr (Or.inl (by assumption)) | exact List.mem_append.mpr (Or.inr (by assumption)) | (refine List.Mem.tail _ ?_; walk_at "m mem"))
  k_with "subscriptTail" => (((with_reducible show wpAny _ _ (subscriptTail _ _ (Value.ref _) (Value.int _ _)) _ _ _); (refine' item_m ?z9k1 ?z9k2 ?z9k3 ?z9k4 ?z9k5 ?_; (case z9k1 => assumption); (case z9k5 => assumption); (case z9k2 => walk_at "m mem"); (case z9k3 => omega); (case z9k4 => omega); k_whole)))
  k_with "truthy ref" => ((k_dflt (refine' truthy_D ?z9N ?z9d ?z9m ?z9s ?z9f ?_; (case z9N => assumption); (case z9d => assumption); (case z9m => walk_at "m mem"); (case z9s => assumption); (case z9f => first | assumption | decide | omega); k_whole)))
  k_with "truthy ref" => ((k_dflt (refine' truthy_L ?z9N ?z9m ?z9f ?_; (case z9N => assumption); (case z9m => walk_at "m mem"); (case z9f => first | assumption | omega); k_whole)))
  k_with "call type:set" => ((((with_reducible show wpAny _ _ (call (Value.type _) [Value.ref _]) _ _ _); k_dflt (refine' set_new_strsN ?z9F ?z9N ?z9m ?z9v ?z9n ?z9hh ?z9f ?_; (case z9F => assumption); (case z9N => assumption); (case z9m => walk_at "m mem"); (case z9v => assumption); (case z9n => assumption); (case z9hh => exact rfl); (case z9f => first | assumption | omega); k_whole); intro h' tk' D' o' F' N' hS' l1'; (try k_lt l1')); revert h' tk' D' o' F' N' hS' l1'; intro _ _ _ _ _ _ _ _))
  k_with "call type:set nil nil" => (((k_dflt (refine' set_new_0 ?z9F ?z9N ?_; (case z9F => assumption); (case z9N => assumption); k_whole); intro h' D' o' F' N' hS' l1'; (try k_lt l1')); revert h' D' o' F' N' hS' l1'; intro _ _ _ _ _ _ _))
  k_with "getItem ref str" => (((k_dflt (refine' getItem_D ?z9N ?z9d ?z9f ?z9m ?z9s ?z9l ?_; (case z9N => assumption); (case z9d => assumption); (case z9f => assumption); (case z9m => walk_at "m mem"); (case z9s => assumption); (case z9l => assumption); k_whole); intro v' hv'); revert v' hv'; intro _ _))
  k_with "compareOp In str ref" => ((k_dflt (refine' in_set ?z9N ?z9m ?z9d ?_; (case z9N => assumption); (case z9d => assumption); (case z9m => walk_at "m mem"); k_whole)))
  k_with "setItem ref str" => (((k_dflt (refine' setItem_K PyProof.V.same_str (strKind_is _ _ _ _) ?z9v ?z9F ?z9N ?z9U ?z9d ?z9f ?_ ?z9z; (case z9F => assumption); (case z9N => assumption); (case z9U => k_updF); (case z9d => assumption); (case z9f => assumption); (case z9z => (rw [sizeLine_eq]; omega)); (case z9v => k_flat)); intro h' o' F' N' hd' hf'; (try dsimp only at N')); revert h' o' F' N' hd' hf'; intro _ _ _ _ _ _))
  k_with "binaryOp Add str str" => (((refine PyProof.Rows.add_str (hsz := ?z9hsz) ?_); (case z9hsz => (have e1 : (Str.ofString ".").length = 1 := by decide); (have e2 : (Str.ofString "/").length = 1 := by decide); (have e3 : (Str.ofString "/.").length = 2 := by decide); rw [sizeLine_eq]; omega); intro _ _))
  k_with "eval Name" => (((with_reducible show wpAny _ _ (eval (Expr.Name _ _) (compEnvC _ _ _ _)) _ _ _); k_dflt (refine' PySem.W.LCgL.ld_own ?z9k1 ?z9k2 ?z9k3 ?z9k4 ?_; (case z9k1 => k_asm); (case z9k2 => walk_at "m mem"); (case z9k3 => assumption); (case z9k4 => walk_at "m get"); k_whole)))
  k_with "m cmp" => ((repeat' (walk_at "m s0"; (fail_if_success (with_reducible show wpAny _ _ (call (Value.ref _) _ _) _ _ _)); (fail_if_success (with_reducible show wpAny _ _ (compareOp _ (Value.ref _) (Value.ref _)) _ _ _)); first | walk1 | (dsimp only; walk1) | (with_reducible refine ite_neg Bool.false_ne_true ?_) | (with_reducible refine ite_pos rfl ?_))))
  k_with "eval Name" => (((with_reducible show wpAny _ _ (eval (Expr.Name _ _) (envOfC _ _ _ _ _)) _ _ _); k_dflt (refine' nameX_L ?z9F ?z9v ?_ ?z9a ?z9b; (case z9F => k_asm); (case z9a => rfl); (case z9b => rfl); (case z9v => walk_at "m get"); k_whole)))
  k_with "callWith" => (first | with_reducible refine PyProof.Rows.callWith_method0 ?_ | with_reducible refine PyProof.Rows.callWith_builtin1 ?_ | with_reducible refine PyProof.Rows.callWith_method1 ?_)
  k_with "call builtin:list.append" => (((k_here; (with_reducible show wpAny _ _ (call (Value.builtin _) [Value.ref _, _]) _ _ _); k_dflt (refine' append_K ?z9F ?z9N ?z9U ?_ ?z9z; (case z9F => k_asm); (case z9N => k_asm); (case z9U => k_upd); (case z9z => (rw [List.size_toArray, sizeLine_eq]; omega))); intro h' F' N'; (try k_sweep)); revert h' F' N'; intro _ _ _))
  trivial
theorem pop_call {H Tl : Addr} {hv tv : List Value} {n nt : Nat} {oC oPr oPs : Obj} {rest : Led} {w : World} {A A₀ : Around} {s : Shared} {h₀ base : Heap} {outer : List Env} {L : Addr} {m mg mb : Str → Option Value} {mean : ExcName → Option Value} {p : Program} {loose : List Str} {env : Env} {Q : Value → Shared → Prop} {E : Value → Shared → Prop}
 (B : Below A₀ base outer h₀) (F : Fr h₀ L s.heap m) (X₀ : (Mine.hd.heap_1 w.params).In h₀) (N : News h₀ L s.heap (led5 H Tl L hv tv n nt oC oPr oPs rest)) (T : Top p loose mean mg mb h₀) (hA : A.frames = some (env :: outer)) (hf : env.frame = some L) (hke : env.scope.kind = .function)
 (hd : A.depth < 700) (hu : A.units < 300) (ap : Ap H Tl L rest) (ap5 : Ap5 H Tl L) {ks : List Key} {k0 : Key} (hk : KeysIn rest hv ks) (hh : HeapP ltK ks) (hk0 : ks[0]? = some k0) (hl : hv.length < 800)
 (h : ∀ h' tk hv' n' v0 ks', Fr h₀ L h' m → News h₀ L h' (led5 H Tl L hv' tv n' nt oC oPr oPs rest) → hv[0]? = some v0 → KeysIn rest hv' ks' → HeapP ltK ks' → (k0 :: ks').Perm ks → Q v0 { s with heap := h', toks := tk }) :
 wpAny (model PySem.Challenge.rw_nq0047_02.row.prog w) A (call (.ref 35) [.ref H]) Q E s := by
  obtain ⟨xs, x, rfl⟩ : ∃ xs x, hv = xs ++ [x] := by
    have hne : hv ≠ [] := fun e => by
      have := hk.1
      rw [e] at this
      have := (List.getElem?_eq_some_iff.mp hk0).1
      simp at *
      omega
    exact ⟨hv.dropLast, hv.getLast hne, (List.dropLast_concat_getLast hne).symm⟩
  obtain ⟨p1, p2, p3, p4, p5, p6, p7⟩ := ap5
  have hN : ∀ p ∈ rest, s.heap.get? p.1 = some p.2 := fun p hp => (N p (.tail _ (.tail _ (.tail _ (.tail _ (.tail _ hp)))))).1
  have hm := hk.map hN
  have hhas := hk.has
  refine wpAny_call ?_
  refine heappop_K (a := H) (lt := ltf (kfOf rest) ltK) B F X₀ N T hA hf hke hd hu ?_ (by simp at hl; omega) (cmpOk_led (fun p hp => .tail _ (.tail _ (.tail _ (.tail _ hp)))) hhas) ?_
  · intro p hp
    simp only [List.mem_cons] at hp
    rcases hp with rfl | rfl | rfl | rfl | hp
    · exact p1.symm
    · exact p4.symm
    · exact p3.symm
    · exact p2.symm
    · exact ap.1 p hp
  intro h' tk n' F' N'
  have pm := pop_map (kfOf rest) ltK xs x
  rw [List.map_append, List.map_cons, List.map_nil] at hm
  rw [← hm] at hh
  have po := pop_ok ltK_ord hh
  have e0 : (xs ++ [x])[0]? = some (popP (ltf (kfOf rest) ltK) xs x).1 := by cases xs <;> rfl
  refine h h' tk _ n' _ _ F' N' e0 (KeysIn.of fun v hv => hhas v (pop_mem hv)) (by rw [pm.1]; exact po.1) ?_
  have ek : k0 = (popP ltK (xs.map (kfOf rest)) (kfOf rest x)).1 := by
    have := po.2.2
    rw [hm, hk0] at this
    exact Option.some.inj this
  rw [pm.1, ek, ← hm]
  exact po.2.1
theorem turn4a {w : World} {s : Shared} {base g : Heap} {outer : List Env} {L : Addr} {m mg mb : Str → Option Value} {mean : ExcName → Option Value} {p : Program} {loose : List Str} {env0 : Env} {dep un : Nat} {gs : Option (List Code)}
 (B : Below { depth := dep, frames := some (env0 :: outer), guards := gs, units := un } base (env0 :: outer) g) (X : (Mine.hd.heap_1 w.params).In g) (T : Top p loose mean mg mb g) (hd : dep < 600) (hu : un < 200) (F : Fr g L s.heap m) {H Tl : Addr} {hv tv : List Value} {n nt : Nat} {oC oPr oPs : Obj} {rest : Led} (N : News g L s.heap (led5 H Tl L hv tv n nt oC oPr oPs rest)) (ap : Ap H Tl L rest) (ap5 : Ap5 H Tl L) {Da Dl : Addr} {ls : List Value} {dn : Bool}
 (hm1 : m (Str.ofString "heap") = some (.ref H)) (hm2 : m (Str.ofString "told") = some (.ref Tl)) (hm3 : m (Str.ofString "answers") = some (.ref Da)) (hm4 : m (Str.ofString "done") = some (.bool dn)) (hm5 : m (Str.ofString "longer") = some (.ref Dl)) (hDl : (Dl, lst ls) ∈ rest) (hend : dn = true ∨ ls = [])
 {ks : List Key} {k0 : Key} (hk : KeysIn rest hv ks) (hh : HeapP ltK ks) (hk0 : ks[0]? = some k0) (hl : hv.length < 800) (htl : tv.length < 800) {Q : Flow → Shared → Prop}
 (h : ∀ h' tk P hv' n' v0 ks', Fr g L h' m → News g L h' (led5 H Tl L hv' (tv ++ [.ref P]) n' (nt + 1) oC oPr oPs ((P, tupOf [v0, .ref Da]) :: rest)) → Ap H Tl L ((P, tupOf [v0, .ref Da]) :: rest) → hv[0]? = some v0 → KeysIn rest hv' ks' → HeapP ltK ks' → (k0 :: ks').Perm ks → Q (if dn = true then .ret (.ref Tl) else .next) { s with heap := h', toks := tk }) :
 wpAny (model PySem.Challenge.rw_nq0047_02.row.prog w) (sAr dep env0 outer gs un L) (execs (sTurn 4) (sEnv L)) Q NoE s := by
  revert h
  revert X
  k_fill
  intro X
  dsimp only [sAr, sTurn, sTail, sEnv, topS, PySem.Challenge.pw_nq0047_02, nth, fnBody, fnScope, whBody, List.drop]
  intro h
  try k_fold
  have ap' := ap
  have ap5' := ap5
  obtain ⟨ap1, ap2, ap3, ap4, ap6⟩ := ap
  obtain ⟨p1, p2, p3, p4, p5, p6, p7⟩ := ap5
  cases dn with
  | true =>
    walk_at "m cmp"
    refine pop_call (by assumption) (by assumption) (by assumption) N (by assumption) rfl rfl rfl ?_ ?_ ap' ap5' hk hh hk0 hl ?_
    · k_room
    · show un + 3 < 300; omega
    intro h1 tk1 hv' n' v0 ks' F1 N1 e0 hk1 hh1 pm1
    k_sweep
    walk_at "m cmp"
    rename_i P9 h8 l9 h9 F9 N9
    rw [show tv.toArray.push (Value.ref P9) = (tv ++ [Value.ref P9]).toArray by simp] at N9
    exact h _ _ P9 hv' n' v0 ks' F9 (led5_new N9) (ap'.cons (Nat.ne_of_lt l9.1) (Nat.ne_of_lt l9.2.1) (Nat.ne_of_lt l9.2.2.2.2.1) (Nat.ne_of_lt l9.2.2.2.1) (Nat.ne_of_lt l9.2.2.1)) e0 hk1 hh1 pm1
  | false =>
    obtain rfl : ls = [] := hend.resolve_left (by simp)
    walk_at "m cmp"
    rename_i Dn h7 F7 N7 l7
    refine eq_nil (vs := []) (qa := 0) (qb := 0) (a := Dl) (b := Dn) N7 (.tail _ (.tail _ (.tail _ (.tail _ (.tail _ (.tail _ hDl)))))) (.head _) ?_ ?_
    · show un + 3 < 9900; omega
    replace N7 := news_tail N7
    clear l7
    walk_at "m cmp"
    refine pop_call (by assumption) (by assumption) (by assumption) N7 (by assumption) rfl rfl rfl ?_ ?_ ap' ap5' hk hh hk0 hl ?_
    · k_room
    · show un + 3 < 300; omega
    intro h1 tk1 hv' n' v0 ks' F1 N1 e0 hk1 hh1 pm1
    k_sweep
    walk_at "m cmp"
    rename_i P9 h8 l9 h9 F9 N9
    rw [show tv.toArray.push (Value.ref P9) = (tv ++ [Value.ref P9]).toArray by simp] at N9
    exact h _ _ P9 hv' n' v0 ks' F9 (led5_new N9) (ap'.cons (Nat.ne_of_lt l9.1) (Nat.ne_of_lt l9.2.1) (Nat.ne_of_lt l9.2.2.2.2.1) (Nat.ne_of_lt l9.2.2.2.1) (Nat.ne_of_lt l9.2.2.1)) e0 hk1 hh1 pm1
end Mine
end
section
open PySem PySem.W PyProof.Rows PySem.Calls
open PyProof.Rows.LCg (lst NsObj SrcAt)
open PySem.SeqAt
set_option Elab.async false
set_option maxRecDepth 100000
set_option maxHeartbeats 8000000
namespace Mine
theorem set_back_MTurn5 : True := by w_top off; trivial
theorem words_MTurn5 : True := by
  k_with_none
  k_with "m s0" => ((fail_if_success (with_reducible show WStep _ _ _ _ _ _)); (fail_if_success (with_reducible show wpAny _ _ (eval (Expr.ListComp _ _ _ _) _) _ _ _)); (fail_if_success (with_reducible show wpAny _ _ (exec (Stmt.For _ _ _ _ _) _) _ _ _)); (fail_if_success (with_reducible show wpAny _ _ (exec (Stmt.Assign _ (Expr.ListComp _ _ _ _) _ _) _) _ _ _)))
  k_with "m get" => ((repeat (first | assumption | exact get_eq | refine get_ne (by decide) ?_ | rfl)))
  k_with "eval Name" => (((with_reducible show wpAny _ _ (eval (Expr.Name _ _) (envOf _ _ _ _ _)) _ _ _); k_dflt (refine' ld ?z9k1 ?z9k2 ?_; (case z9k1 => k_asm); (case z9k2 => walk_at "m get"); k_whole)))
  k_with "subscriptTail" => (((with_reducible show wpAny _ _ (subscriptTail _ _ (Value.ref _) (Value.int _ _)) _ _ _); (refine' item_h ?z9k1 ?z9k2 ?z9k3 ?z9k4 ?_; (case z9k1 => assumption); (case z9k2 => omega); (case z9k3 => omega); (case z9k4 => assumption); k_whole)))
  k_with "setItem ref int" => ((((with_reducible show wpAny _ _ (setItem (Value.ref _) (Value.int _ _) _) _ _ _); (refine' setItem_h ?z9k1 ?z9k2 ?z9k3 ?z9k4 ?z9k5 ?z9k6 ?_; (case z9k1 => assumption); (case z9k2 => assumption); (case z9k3 => assumption); (case z9k4 => omega); (case z9k5 => assumption); (case z9k6 => omega); k_whole); intro h' F' N'); revert h' F' N'; intro _ _ _))
  k_with "call builtin:len" => (((with_reducible show wpAny _ _ (call (Value.builtin _) [Value.ref _]) _ _ _); (refine' len_h ?z9k1 ?z9k2 ?_; (case z9k1 => assumption); (case z9k2 => first | assumption | (simp only [List.length_append, List.length_cons, List.length_nil]; omega)); k_whole)))
  k_with "call builtin:list.append" => ((((with_reducible show wpAny _ _ (call (Value.builtin _) [Value.ref _, _]) _ _ _); (refine' append_h ?z9k1 ?z9k2 ?z9k3 ?z9k4 ?_; (case z9k1 => assumption); (case z9k2 => assumption); (case z9k3 => assumption); (case z9k4 => omega); k_whole); intro h' F' N'); revert h' F' N'; intro _ _ _))
  k_with "call builtin:list.pop" => ((((with_reducible show wpAny _ _ (call (Value.builtin _) [Value.ref _]) _ _ _); (refine' pop_h ?z9k1 ?z9k2 ?z9k3 ?z9k4 ?_; (case z9k1 => assumption); (case z9k2 => assumption); (case z9k3 => assumption); (case z9k4 => omega); k_whole); intro h' F' N'); revert h' F' N'; intro _ _ _))
  k_with "eval Name" => (((with_reducible show wpAny _ _ (eval (Expr.Name _ _) (compEnvC _ _ _ _)) _ _ _); k_dflt (refine' PySem.W.LCgL.ld_own ?z9k1 ?z9k2 ?z9k3 ?z9k4 ?_; (case z9k1 => k_asm); (case z9k2 => exact List.Mem.head _); (case z9k3 => assumption); (case z9k4 => walk_at "m get"); k_whole)))
  k_with "m mem" => (first | assumption | exact List.Mem.head _ | exact List.mem_append.mpr (Or.inl (by assumption)) | exact List.mem_append.mpr (Or.inr (by assumption)) | (refine List.Mem.tail _ ?_; walk_at "m mem"))
  k_with "subscriptTail" => (((with_reducible show wpAny _ _ (subscriptTail _ _ (Value.ref _) (Value.int _ _)) _ _ _); (refine' item_m ?z9k1 ?z9k2 ?z9k3 ?z9k4 ?z9k5 ?_; (case z9k1 => assumption); (case z9k5 => assumption); (case z9k2 => walk_at "m mem"); (case z9k3 => omega); (case z9k4 => omega); k_whole)))
  k_with "truthy ref" => ((k_dflt (refine' truthy_D ?z9N ?z9d ?z9m ?z9s ?z9f ?_; (case z9N => assumption); (case z9d => assumption); (case z9m => walk_at "m mem"); (case z9s => assumption); (case z9f => first | assumption | decide | omega); k_whole)))
  k_with "truthy ref" => ((k_dflt (refine' truthy_L ?z9N ?z9m ?z9f ?_; (case z9N => assumption); (case z9m => walk_at "m mem"); (case z9f => first | assumption | omega); k_whole)))
  k_with "call type:set" => ((((with_reducible show wpAny _ _ (call (Value.type _) [Value.ref _]) _ _ _); k_dflt (refine' set_new_strsN ?z9F ?z9N ?z9m ?z9v ?z9n ?z9hh ?z9f ?_; (case z9F => assumption); (case z9N => assumption); (case z9m => walk_at "m mem"); (case z9v => assumption); (case z9n => assumption); (case z9hh => exact rfl); (case z9f => first | assumption | omega); k_whole); intro h' tk' D' o' F' N' hS' l1'; (try k_lt l1')); revert h' tk' D' o' F' N' hS' l1'; intro _ _ _ _ _ _ _ _))
  k_with "call type:set nil nil" => (((k_dflt (refine' set_new_0 ?z9F ?z9N ?_; (case z9F => assumption); (case z9N => assumption); k_whole); intro h' D' o' F' N' hS' l1'; (try k_lt l1')); revert h' D' o' F' N' hS' l1'; intro _ _ _ _ _ _ _))
  k_with "getItem ref str" => (((k_dflt (refine' getItem_D ?z9N ?z9d ?z9f ?z9m ?z9s ?z9l ?_; (case z9N => assumption); (case z9d => assumption); (case z9f => assumption); (case z9m => walk_at "m mem"); (case z9s => assumption); (case z9l => assumption); k_whole); intro v' hv'); revert v' hv'; intro _ _))
  k_with "compareOp In str ref" => ((k_dflt (refine' in_set ?z9N ?z9m ?z9d ?_; (case z9N => assumption); (case z9d => assumption); (case z9m => walk_at "m mem"); k_whole)))
  k_with "setItem ref str" => (((k_dflt (refine' setItem_K PyProof.V.same_str (strKind_is _ _ _ _) ?z9v ?z9F ?z9N ?z9U ?z9d ?z9f ?_ ?z9z; (case z9F => assumption); (case z9N => assumption); (case z9U => k_updF); (case z9d => assumption); (case z9f => assumption); (case z9z => (rw [sizeLine_eq]; omega)); (case z9v => k_flat)); intro h' o' F' N' hd' hf'; (try dsimp only at N')); revert h' o' F' N' hd' hf'; intro _ _ _ _ _ _))
  k_with "binaryOp Add str str" => (((refine PyProof.Rows.add_str (hsz := ?z9hsz) ?_); (case z9hsz => (have e1 : (Str.ofString ".").length = 1 := by decide); (have e2 : (Str.ofString "/").length = 1 := by decide); (have e3 : (Str.ofString "/.").length = 2 := by decide); rw [sizeLine_eq]; omega); intro _ _))
  k_with "eval Name" => (((with_reducible show wpAny _ _ (eval (Expr.Name _ _) (compEnvC _ _ _ _)) _ _ _); k_dflt (refine' PySem.W.LCgL.ld_own ?z9k1 ?z9k2 ?z9k3 ?z9k4 ?_; (case z9k1 => k_asm); (case z9k2 => walk_at "m mem"); (case z9k3 => assumption); (case z9k4 => walk_at "m get"); k_whole)))
  k_with "m cmp" => ((repeat' (walk_at "m s0"; (fail_if_success (with_reducible show wpAny _ _ (call (Value.ref _) _ _) _ _ _)); (fail_if_success (with_reducible show wpAny _ _ (compareOp _ (Value.ref _) (Value.ref _)) _ _ _)); first | walk1 | (dsimp only; walk1) | (with_reducible refine ite_neg Bool.false_ne_true ?_) | (with_reducible refine ite_pos rfl ?_))))
  k_with "eval Name" => (((with_reducible show wpAny _ _ (eval (Expr.Name _ _) (envOfC _ _ _ _ _)) _ _ _); k_dflt (refine' nameX_L ?z9F ?z9v ?_ ?z9a ?z9b; (case z9F => k_asm); (case z9a => rfl); (case z9b => rfl); (case z9v => walk_at "m get"); k_whole)))
  k_with "m sl" => ((repeat' (walk_at "m s0"; (fail_if_success (with_reducible show wpAny _ _ (call (Value.ref _) _ _) _ _ _)); (fail_if_success (with_reducible show wpAny _ _ (compareOp _ (Value.ref _) (Value.ref _)) _ _ _)); (fail_if_success (with_reducible show wpAny _ _ (subscriptTail _ (PySem.Expr.Slice _ _ _ _) _ _) _ _ _)); first | walk1 | (dsimp only; walk1) | (with_reducible refine ite_neg Bool.false_ne_true ?_) | (with_reducible refine ite_pos rfl ?_))))
  k_with "callWith" => (first | with_reducible refine PyProof.Rows.callWith_method0 ?_ | with_reducible refine PyProof.Rows.callWith_builtin1 ?_ | with_reducible refine PyProof.Rows.callWith_method1 ?_)
  k_with "call builtin:list.append" => (((k_here; (with_reducible show wpAny _ _ (call (Value.builtin _) [Value.ref _, _]) _ _ _); k_dflt (refine' append_K ?z9F ?z9N ?z9U ?_ ?z9z; (case z9F => k_asm); (case z9N => k_asm); (case z9U => k_upd); (case z9z => (rw [List.size_toArray, sizeLine_eq]; omega))); intro h' F' N'; (try k_sweep)); revert h' F' N'; intro _ _ _))
  k_with "subscriptTail Name Slice ref ref" => (((k_here; (with_reducible show wpAny _ _ (subscriptTail _ (PySem.Expr.Slice _ _ none _) (Value.ref _) (Value.ref _)) _ _ _); k_dflt (refine' slice_one ?z9F ?z9N ?z9m ?z9z ?z9p ?z9q ?_ ?z9s ?z9t; (case z9F => assumption); (case z9N => assumption); (case z9m => walk_at "m mem"); (case z9p => exact IsPart.int _ _); (case z9q => exact IsPart.none); (case z9z => assumption); (case z9s => with_unfolding_all rfl); (case z9t => kmk_pure)); intro D' h' F' N' l1; (try k_lt l1)); revert D' h' F' N' l1; intro _ _ _ _ _))
  trivial
theorem sdn_length {γ : Type} {lt : γ → γ → Bool} (x : γ) : ∀ (pos : Nat) (xs : List γ), (sdn lt x xs pos).length = xs.length := by
  intro pos
  induction pos using Nat.strongRecOn with
  | ind pos ih =>
    intro xs
    rw [sdn]
    split
    · simp
    · split
      · split
        · rw [ih _ (by omega)]; simp
        · simp
      · simp
theorem sup_length {γ : Type} {lt : γ → γ → Bool} : ∀ (k : Nat) (xs : List γ) (pos : Nat), xs.length - pos = k → (sup lt xs pos).1.length = xs.length := by
  intro k
  induction k using Nat.strongRecOn with
  | ind k ih =>
    intro xs pos hk
    cases h1 : xs[2 * pos + 1]? with
    | none => rw [sup_end _ h1]
    | some l =>
      have l1 := (List.getElem?_eq_some_iff.mp h1).1
      cases h2 : xs[2 * pos + 1 + 1]? with
      | none => rw [sup_one _ h1 h2, ih (xs.length - (2 * pos + 1)) (by omega) _ _ (by simp)]; simp
      | some r =>
        have l2 := (List.getElem?_eq_some_iff.mp h2).1
        cases h : lt l r with
        | true => rw [sup_left _ h1 h2 h, ih (xs.length - (2 * pos + 1)) (by omega) _ _ (by simp)]; simp
        | false => rw [sup_right _ h1 h2 h, ih (xs.length - (2 * pos + 1 + 1)) (by omega) _ _ (by simp)]; simp
theorem siftup_length {γ : Type} {lt : γ → γ → Bool} (x : γ) (xs : List γ) : (siftupP lt x xs).length = xs.length := by
  unfold siftupP; rw [sdn_length, List.length_set, sup_length _ _ _ rfl]
theorem perm_goes {γ : Type} {k0 c0 : γ} {kr cr sf out : List γ} (h1 : sf.Perm (c0 :: kr)) (h2 : out.Perm (sf ++ cr)) : (k0 :: out).Perm ((k0 :: kr) ++ (c0 :: cr)) := by
  refine .cons _ (h2.trans ((h1.append_right cr).trans ?_))
  exact (List.perm_middle (l₁ := kr) (a := c0) (l₂ := cr)).symm
theorem pushes_step {γ : Type} {lt : γ → γ → Bool} {xs ls : List γ} {i : Nat} {v : γ} (h : ls[i]? = some v) : pushes lt xs (ls.take (i + 1)) = sdn lt v (pushes lt xs (ls.take i) ++ [v]) (pushes lt xs (ls.take i)).length := by
  have e : ls.take (i + 1) = ls.take i ++ [v] := by rw [List.take_add_one, h]; rfl
  rw [e]; unfold pushes; rw [List.foldl_append]; rfl
theorem slice_one {prog : Program} {w : World} {A : Around} {E : Value → Shared → Prop} {s : Shared} {h₀ : Heap} {L l : Addr} {m : Str → Option Value} {news : Led} {value slice : PySem.Expr} {vs : List Value} {vl vu : Value} {q : Nat} {Q : Value → Shared → Prop} (F : Fr h₀ L s.heap m) (N : News h₀ L s.heap news) (hm : (l, listOf vs.toArray q) ∈ news) (hz : vs.length < 1000) (pl : IsPart vl (some 1)) (pu : IsPart vu none)
    (h : ∀ D h', Fr h₀ L h' m → News h₀ L h' ((D, listOf (vs.drop 1).toArray 0) :: news) → (∀ p ∈ news, p.1 < D) → Q (.ref D) { s with heap := h' })
    (hs : subscripted slice false (.ref l) (.ref s.heap.objs.size) = operate [.ref s.heap.objs.size, .ref l] (getItem (.ref l) (.ref s.heap.objs.size))) (ht : ∀ r, letTemporaryGo value (.ref l) r = pure ()) :
    wpAny (model prog w) A (subscriptTail value slice (.ref l) (.ref s.heap.objs.size)) Q E { s with heap := s.heap.push { cls := .type "slice", data := .fields #[vl, vu, .none] } } := by
  have e : sliceBounds (some 1) none none vs.toArray.size = (((min 1 vs.toArray.size : Nat) : Int), ((vs.toArray.size : Nat) : Int), 1) := by
    simp only [sliceBounds, Option.getD_none, show (1 : Int) > 0 by decide, if_true, if_neg (show ¬ ((1 : Int) < 0) by omega)]
    congr 1
    omega
  refine kmk_slice F N (N.isList hm) pl pu (fun D h' F' N' l1 => h D h' F' ?_ l1) hs ht (by rw [List.size_toArray, sizeLine_eq]; omega)
  rw [kmk_pick_nat _ e] at N'
  have e2 : (List.take (vs.toArray.size - min 1 vs.toArray.size) (List.drop (min 1 vs.toArray.size) vs.toArray.toList)).toArray = (vs.drop 1).toArray := by
    rw [List.size_toArray, List.toList_toArray, kmk_drop_min, List.take_of_length_le (by rw [List.length_drop]; omega)]
  rw [e2] at N'
  exact N'
section
variable {H Tl : Addr} {hv tv : List Value} {n nt : Nat} {oC oPr oPs : Obj} {rest : Led} {w : World} {A A₀ : Around} {s : Shared} {h₀ base : Heap} {outer : List Env} {L : Addr} {m mg mb : Str → Option Value} {mean : ExcName → Option Value} {p : Program} {loose : List Str} {env : Env} {Q : Value → Shared → Prop} {E : Value → Shared → Prop}
theorem led5_off {r : Led} (ap : Ap H Tl L rest) (ap5 : Ap5 H Tl L) (hr : ∀ p ∈ r, p ∈ rest) : ∀ p ∈ (Tl, listOf tv.toArray nt) :: (L + 1 + 1 + 1, oC) :: (L + 1 + 1, oPr) :: (L + 1, oPs) :: r, p.1 ≠ H := by
  obtain ⟨p1, p2, p3, p4, p5, p6, p7⟩ := ap5
  intro p hp
  simp only [List.mem_cons] at hp
  rcases hp with rfl | rfl | rfl | rfl | hp
  · exact p1.symm
  · exact p4.symm
  · exact p3.symm
  · exact p2.symm
  · exact ap.1 p (hr p hp)
theorem replace_call {lt : Value → Value → Bool} {x y : Value} (B : Below A₀ base outer h₀) (F : Fr h₀ L s.heap m) (X₀ : (Mine.hd.heap_1 w.params).In h₀) (N : News h₀ L s.heap (led5 H Tl L hv tv n nt oC oPr oPs rest)) (T : Top p loose mean mg mb h₀) (hA : A.frames = some (env :: outer)) (hf : env.frame = some L) (hke : env.scope.kind = .function)
 (hd : A.depth < 700) (hu : A.units < 300) (ap : Ap H Tl L rest) (ap5 : Ap5 H Tl L) (hl : hv.length < 800) (hy : hv[0]? = some y) (hc : CmpOk w ((Tl, listOf tv.toArray nt) :: (L + 1 + 1 + 1, oC) :: (L + 1 + 1, oPr) :: (L + 1, oPs) :: rest) (hv.set 0 x) lt)
 (h : ∀ h' tk, Fr h₀ L h' m → News h₀ L h' (led5 H Tl L (siftupP lt x (hv.set 0 x)) tv n nt oC oPr oPs rest) → Q y { s with heap := h', toks := tk }) :
 wpAny (model PySem.Challenge.rw_nq0047_02.row.prog w) A (call (.ref 42) [.ref H, x]) Q E s :=
  wpAny_call (heapreplace_K (a := H) (lt := lt) B F X₀ N T hA hf hke hd hu (led5_off ap ap5 fun _ h => h) hy (by omega) hc fun h' tk F' N' => h h' tk F' N')
theorem push_call {lt : Value → Value → Bool} {x : Value} (B : Below A₀ base outer h₀) (F : Fr h₀ L s.heap m) (X₀ : (Mine.hd.heap_1 w.params).In h₀) (N : News h₀ L s.heap (led5 H Tl L hv tv n nt oC oPr oPs rest)) (T : Top p loose mean mg mb h₀) (hA : A.frames = some (env :: outer)) (hf : env.frame = some L) (hke : env.scope.kind = .function)
 (hd : A.depth < 700) (hu : A.units < 300) (ap : Ap H Tl L rest) (ap5 : Ap5 H Tl L) (hl : hv.length < 800) (hc : CmpOk w ((Tl, listOf tv.toArray nt) :: (L + 1 + 1 + 1, oC) :: (L + 1 + 1, oPr) :: (L + 1, oPs) :: rest) (hv ++ [x]) lt)
 (h : ∀ h' tk n', Fr h₀ L h' m → News h₀ L h' (led5 H Tl L (sdn lt x (hv ++ [x]) hv.length) tv n' nt oC oPr oPs rest) → Q .none { s with heap := h', toks := tk }) :
 wpAny (model PySem.Challenge.rw_nq0047_02.row.prog w) A (call (.ref 28) [.ref H, x]) Q E s :=
  wpAny_call (heappush_K (a := H) (lt := lt) B F X₀ N T hA hf hke hd hu (led5_off ap ap5 fun _ h => h) (by omega) hc fun h' tk n' F' N' => h h' tk n' F' N')
end
theorem turn4b {w : World} {s : Shared} {base g : Heap} {outer : List Env} {L : Addr} {m mg mb : Str → Option Value} {mean : ExcName → Option Value} {p : Program} {loose : List Str} {env0 : Env} {dep un : Nat} {gs : Option (List Code)}
 (B : Below { depth := dep, frames := some (env0 :: outer), guards := gs, units := un } base (env0 :: outer) g) (X : (Mine.hd.heap_1 w.params).In g) (T : Top p loose mean mg mb g) (hd : dep < 600) (hu : un < 200) (F : Fr g L s.heap m) {H Tl : Addr} {hv tv : List Value} {n nt : Nat} {oC oPr oPs : Obj} {rest : Led} (N : News g L s.heap (led5 H Tl L hv tv n nt oC oPr oPs rest)) (ap : Ap H Tl L rest) (ap5 : Ap5 H Tl L) {Da Dl ca wa : Addr} {l0 : Value} {lr : List Value}
 (hm1 : m (Str.ofString "heap") = some (.ref H)) (hm2 : m (Str.ofString "told") = some (.ref Tl)) (hm3 : m (Str.ofString "answers") = some (.ref Da)) (hm4 : m (Str.ofString "done") = some (.bool false)) (hm5 : m (Str.ofString "longer") = some (.ref Dl)) (hm6 : m (Str.ofString "calls") = some (.ref ca)) (hm7 : m (Str.ofString "wishes") = some (.ref wa)) (hDl : (Dl, lst (l0 :: lr)) ∈ rest)
 {ks cks : List Key} {k0 : Key} (hk : KeysIn rest hv ks) (hck : KeysIn rest (l0 :: lr) cks) (hh : HeapP ltK ks) (hk0 : ks[0]? = some k0) (hl : hv.length < 400) (hl2 : lr.length < 300) (htl : tv.length < 800) {Q : Flow → Shared → Prop}
 (h : ∀ h' tk dr P hv' n' v0 ks' m' Ds os, Fr g L h' m' → m' (Str.ofString "heap") = some (.ref H) → m' (Str.ofString "told") = some (.ref Tl) → m' (Str.ofString "calls") = some (.ref ca) → m' (Str.ofString "wishes") = some (.ref wa) →
   News g L h' (led5 H Tl L hv' (tv ++ [.ref P]) n' (nt + 1) oC oPr oPs ((Ds, os) :: (P, tupOf [v0, .ref Da]) :: rest)) → Ap H Tl L ((Ds, os) :: (P, tupOf [v0, .ref Da]) :: rest) → hv[0]? = some v0 → KeysIn rest hv' ks' → HeapP ltK ks' → (k0 :: ks').Perm (ks ++ cks) → Q .next { s with heap := h', toks := tk, drawn := dr }) :
 wpAny (model PySem.Challenge.rw_nq0047_02.row.prog w) (sAr dep env0 outer gs un L) (execs (sTurn 4) (sEnv L)) Q NoE s := by
  revert h
  revert X
  k_fill
  intro X
  dsimp only [sAr, sTurn, sTail, sEnv, topS, PySem.Challenge.pw_nq0047_02, nth, fnBody, fnScope, whBody, List.drop]
  intro h
  try k_fold
  have ap' := ap
  have ap5' := ap5
  obtain ⟨ap1, ap2, ap3, ap4, ap6⟩ := ap
  obtain ⟨p1, p2, p3, p4, p5, p6, p7⟩ := ap5
  have hN : ∀ p ∈ rest, s.heap.get? p.1 = some p.2 := fun p hp => (N p (.tail _ (.tail _ (.tail _ (.tail _ (.tail _ hp)))))).1
  have hx0 : (l0 :: lr)[(0 : Int).toNat]? = some l0 := rfl
  have hll : (l0 :: lr).length < 1000 := by simp; omega
  walk_at "m cmp"
  rename_i Dn h7 F7 N7 l7
  refine RcAt.lists_lengths (N7.isList (.tail _ (.tail _ (.tail _ (.tail _ (.tail _ (.tail _ hDl))))))) (N7.isList (.head _)) (by simp) ?_ _ _ _ _ ?_
  · show un + 3 < 9900; omega
  replace N7 := news_tail N7
  clear l7
  walk_at "m cmp"
  have hmk := hk.map hN
  have hmc := hck.map hN
  have has1 := hk.has
  have has2 := hck.has
  obtain ⟨v0, hv0, _⟩ := hk.2 0 (List.getElem?_eq_some_iff.mp hk0).1
  have hne : hv ≠ [] := fun e => by rw [e] at hv0; cases hv0
  have has3 : ∀ v ∈ siftupP (ltf (kfOf rest) ltK) l0 (hv.set 0 l0), ∃ k, KeyIn rest v k := by
    intro v hv
    rcases siftup_mem hv with hv | rfl
    · rcases List.mem_or_eq_of_mem_set hv with hv | rfl
      · exact has1 v hv
      · exact has2 _ (.head _)
    · exact has2 _ (.head _)
  refine replace_call (y := v0) (lt := ltf (kfOf rest) ltK) (by assumption) (by assumption) (by assumption) N7 (by assumption) rfl rfl rfl ?_ ?_ ap' ap5' (by omega) hv0 (cmpOk_led (fun p hp => .tail _ (.tail _ (.tail _ (.tail _ hp)))) ?_) ?_
  · k_room
  · show un + 3 < 300; omega
  · intro v hv
    rcases List.mem_or_eq_of_mem_set hv with hv | rfl
    · exact has1 v hv
    · exact has2 _ (.head _)
  intro h8 tk8 F8 N8
  have hlen1 : (siftupP (ltf (kfOf rest) ltK) l0 (hv.set 0 l0)).length < 400 := by rw [siftup_length, List.length_set]; exact hl
  generalize hhv1 : siftupP (ltf (kfOf rest) ltK) l0 (hv.set 0 l0) = hv1 at N8 has3 hlen1
  k_sweep
  walk_at "m cmp"
  rename_i P9 h99 l9 h9 F9 N9
  rw [show tv.toArray.push (Value.ref P9) = (tv ++ [Value.ref P9]).toArray by simp] at N9
  replace N9 := led5_new N9
  have apP : Ap H Tl L ((P9, tupOf [v0, .ref Da]) :: rest) := ap'.cons (Nat.ne_of_lt l9.1) (Nat.ne_of_lt l9.2.1) (Nat.ne_of_lt l9.2.2.2.2.1) (Nat.ne_of_lt l9.2.2.2.1) (Nat.ne_of_lt l9.2.2.1)
  clear l9
  refine wpAny_For ?_
  walk_at "m sl"
  refine slice_one (vs := l0 :: lr) (by assumption) N9 (.tail _ (.tail _ (.tail _ (.tail _ (.tail _ (.tail _ hDl)))))) hll (IsPart.int _ _) IsPart.none ?_ (by with_unfolding_all rfl) (by kmk_pure)
  intro Ds h10 F10 N10 l10
  k_lt l10
  replace N10 := led5_new N10
  have apD := apP.cons (o := listOf ((l0 :: lr).drop 1).toArray 0) (Nat.ne_of_lt l10.1) (Nat.ne_of_lt l10.2.1) (Nat.ne_of_lt l10.2.2.2.2.1) (Nat.ne_of_lt l10.2.2.2.1) (Nat.ne_of_lt l10.2.2.1)
  clear l10
  k_sweep
  refine iter_listN (ax := Ds) F10 N10 (.tail _ (.tail _ (.tail _ (.tail _ (.tail _ (.head _)))))) ?_
  intro h11 I11 own11 F11 N11 off11 ok11
  k_sweep
  refine for_walk (nextOk_list rfl) (fun i m₁ nw => ∃ n', nw = led5 H Tl L (pushes (ltf (kfOf rest) ltK) hv1 (lr.take i)) (tv ++ [.ref P9]) n' (nt + 1) oC oPr oPs ((Ds, listOf ((l0 :: lr).drop 1).toArray 0) :: (P9, tupOf [v0, .ref Da]) :: rest) ∧ m₁ (Str.ofString "heap") = some (.ref H) ∧ m₁ (Str.ofString "told") = some (.ref Tl) ∧ m₁ (Str.ofString "calls") = some (.ref ca) ∧ m₁ (Str.ofString "wishes") = some (.ref wa) ∧ m₁ (Str.ofString "done") = some (.bool false)) F11 N11 off11 ok11 ⟨n, rfl, hm1, hm2, hm6, hm7, hm4⟩ ?_ ?_ (fun _ _ q => q)
  · rintro i v m₁ nw own' h2 tk2 dr2 ext hi ⟨hiv, rfl⟩ ⟨n', rfl, e1, e2, e3, e4, e5⟩ off2 hext F2 N2 ok2
    k_sweep
    obtain ⟨oI, rfl, hIc, hId, _⟩ := ok2
    have hil : i < lr.length := by rw [List.size_toArray] at hi; simpa using hi
    have hvi : lr[i]? = some v := by rw [List.getElem?_toArray] at hiv; simpa using hiv
    replace N2 : News g L h2 (led5 H Tl L (pushes (ltf (kfOf rest) ltK) hv1 (lr.take i)) (tv ++ [.ref P9]) n' (nt + 1) oC oPr oPs (((Ds, listOf ((l0 :: lr).drop 1).toArray 0) :: (P9, tupOf [v0, .ref Da]) :: rest) ++ [(I11, oI)])) := N2
    have apI : Ap H Tl L (((Ds, listOf ((l0 :: lr).drop 1).toArray 0) :: (P9, tupOf [v0, .ref Da]) :: rest) ++ [(I11, oI)]) := by
      refine Ap.app ⟨?_, ?_, ?_, ?_, ?_⟩ apD <;> intro p hp <;> rcases List.mem_singleton.mp hp with rfl
      · exact fun e => off2 _ (.head _) (e ▸ .head _)
      · exact fun e => off2 _ (.tail _ (.head _)) (e ▸ .head _)
      · exact fun e => off2 _ (.tail _ (.tail _ (.tail _ (.tail _ (.head _))))) (e ▸ .head _)
      · exact fun e => off2 _ (.tail _ (.tail _ (.tail _ (.head _)))) (e ▸ .head _)
      · exact fun e => off2 _ (.tail _ (.tail _ (.head _))) (e ▸ .head _)
    have hlen : (pushes (ltf (kfOf rest) ltK) hv1 (lr.take i)).length < 800 := by rw [pushes_length, List.length_take]; omega
    walk_at "m cmp"
    refine push_call (lt := ltf (kfOf rest) ltK) (by assumption) (by assumption) (by assumption) (by assumption) (by assumption) rfl rfl rfl ?_ ?_ apI ap5' hlen (cmpOk_led (rest := rest) (fun p hp => .tail _ (.tail _ (.tail _ (.tail _ (.tail _ (.tail _ (List.mem_append.mpr (.inl hp)))))))) ?_) ?_
    · k_room
    · show un + 3 < 300; omega
    · intro u hu
      rcases List.mem_append.mp hu with hu | hu
      · rcases pushes_mem _ _ hu with hu | hu
        · exact has3 u hu
        · exact has2 u (.tail _ (List.mem_of_mem_take hu))
      · rcases List.mem_singleton.mp hu with rfl
        exact has2 _ (.tail _ (List.mem_of_getElem? hvi))
    intro h3 tk3 n3 F3 N3
    k_sweep
    walk_at "m cmp"
    refine ⟨_, _, _, _, [(I11, oI)], led5 H Tl L (sdn (ltf (kfOf rest) ltK) v (pushes (ltf (kfOf rest) ltK) hv1 (lr.take i) ++ [v]) (pushes (ltf (kfOf rest) ltK) hv1 (lr.take i)).length) (tv ++ [.ref P9]) n3 (nt + 1) oC oPr oPs ((Ds, listOf ((l0 :: lr).drop 1).toArray 0) :: (P9, tupOf [v0, .ref Da]) :: rest), rfl, by assumption, by assumption, ?_, ⟨oI, rfl, hIc, hId, .inr ⟨_, .tail _ (.tail _ (.tail _ (.tail _ (.tail _ (.head _))))), rfl, _, rfl⟩⟩, n3, by rw [pushes_step hvi], ?_, ?_, ?_, ?_, ?_⟩
    · intro p hp
      rcases List.mem_cons.mp hp with rfl | hp
      · have o := off2 _ (.head _)
        exact o
      · exact off2 p (.tail _ hp)
    · walk_at "m get"
    · walk_at "m get"
    · walk_at "m get"
    · walk_at "m get"
    · walk_at "m get"
  · rintro m₁ nw h2 tk2 dr2 ⟨n', rfl, e1, e2, e3, e4, e5⟩ F2 N2
    k_sweep
    walk_at "m cmp"
    have esz : lr.take ((l0 :: lr).drop 1).toArray.size = lr := by rw [List.size_toArray]; simp
    rw [esz] at N2
    have pmap := pushes_map (kfOf rest) ltK lr hv1
    have smap := siftup_map (kfOf rest) ltK l0 (hv.set 0 l0) (by simpa using hne)
    rw [hhv1, List.map_set, hmk] at smap
    obtain ⟨kr, rfl⟩ : ∃ kr, ks = k0 :: kr := by
      cases ks with
      | nil => cases hk0
      | cons a r => cases hk0; exact ⟨r, rfl⟩
    have so := siftup_ok ltK_ord (x := kfOf rest l0) hh
    rw [← smap] at so
    have po := pushes_ok ltK_ord (lr.map (kfOf rest)) _ so.1
    rw [← pmap] at po
    refine h _ _ _ P9 _ n' v0 _ m₁ Ds _ F2 e1 e2 e3 e4 N2 apD hv0 (KeysIn.of fun v hv => ?_) po.1 ?_
    · rcases pushes_mem _ _ hv with hv | hv
      · exact has3 v hv
      · exact has2 v (.tail _ hv)
    · rw [← hmc]
      exact perm_goes so.2 po.2
end Mine
end
section
open PySem PySem.W PyProof.Rows PySem.Calls
open PyProof.Rows.LCg (lst NsObj SrcAt)
open PySem.SeqAt
set_option Elab.async false
set_option maxRecDepth 100000
set_option maxHeartbeats 8000000
namespace Mine
theorem set_back_MRaise : True := by w_top off; trivial
theorem words_MRaise : True := by
  k_with_none
  k_with "m get" => ((repeat (first | assumption | exact get_eq | refine get_ne (by decide) ?_ | rfl)))
  k_with "eval Name" => (((with_reducible show wpAny _ _ (eval (Expr.Name _ _) (envOf _ _ _ _ _)) _ _ _); k_dflt (refine' ld ?z9k1 ?z9k2 ?_; (case z9k1 => k_asm); (case z9k2 => walk_at "m get"); k_whole)))
  k_with "subscriptTail" => (((with_reducible show wpAny _ _ (subscriptTail _ _ (Value.ref _) (Value.int _ _)) _ _ _); (refine' item_h ?z9k1 ?z9k2 ?z9k3 ?z9k4 ?_; (case z9k1 => assumption); (case z9k2 => omega); (case z9k3 => omega); (case z9k4 => assumption); k_whole)))
  k_with "setItem ref int" => ((((with_reducible show wpAny _ _ (setItem (Value.ref _) (Value.int _ _) _) _ _ _); (refine' setItem_h ?z9k1 ?z9k2 ?z9k3 ?z9k4 ?z9k5 ?z9k6 ?_; (case z9k1 => assumption); (case z9k2 => assumption); (case z9k3 => assumption); (case z9k4 => omega); (case z9k5 => assumption); (case z9k6 => omega); k_whole); intro h' F' N'); revert h' F' N'; intro _ _ _))
  k_with "call builtin:len" => (((with_reducible show wpAny _ _ (call (Value.builtin _) [Value.ref _]) _ _ _); (refine' len_h ?z9k1 ?z9k2 ?_; (case z9k1 => assumption); (case z9k2 => first | assumption | (simp only [List.length_append, List.length_cons, List.length_nil]; omega)); k_whole)))
  k_with "call builtin:list.append" => ((((with_reducible show wpAny _ _ (call (Value.builtin _) [Value.ref _, _]) _ _ _); (refine' append_h ?z9k1 ?z9k2 ?z9k3 ?z9k4 ?_; (case z9k1 => assumption); (case z9k2 => assumption); (case z9k3 => assumption); (case z9k4 => omega); k_whole); intro h' F' N'); revert h' F' N'; intro _ _ _))
  k_with "call builtin:list.pop" => ((((with_reducible show wpAny _ _ (call (Value.builtin _) [Value.ref _]) _ _ _); (refine' pop_h ?z9k1 ?z9k2 ?z9k3 ?z9k4 ?_; (case z9k1 => assumption); (case z9k2 => assumption); (case z9k3 => assumption); (case z9k4 => omega); k_whole); intro h' F' N'); revert h' F' N'; intro _ _ _))
  k_with "eval Name" => (((with_reducible show wpAny _ _ (eval (Expr.Name _ _) (compEnvC _ _ _ _)) _ _ _); k_dflt (refine' PySem.W.LCgL.ld_own ?z9k1 ?z9k2 ?z9k3 ?z9k4 ?_; (case z9k1 => k_asm); (case z9k2 => exact List.Mem.head _); (case z9k3 => assumption); (case z9k4 => walk_at "m get"); k_whole)))
  k_with "m mem" => (first | assumption | exact List.Mem.head _ | exact List.mem_append.mpr (Or.inl (by assumption)) | exact List.mem_append.mpr (Or.inr (by assumption)) | (refine List.Mem.tail _ ?_; walk_at "m mem"))
  k_with "subscriptTail" => (((with_reducible show wpAny _ _ (subscriptTail _ _ (Value.ref _) (Value.int _ _)) _ _ _); (refine' item_m ?z9k1 ?z9k2 ?z9k3 ?z9k4 ?z9k5 ?_; (case z9k1 => assumption); (case z9k5 => assumption); (case z9k2 => walk_at "m mem"); (case z9k3 => omega); (case z9k4 => omega); k_whole)))
  k_with "truthy ref" => ((k_dflt (refine' truthy_D ?z9N ?z9d ?z9m ?z9s ?z9f ?_; (case z9N => assumption); (case z9d => assumption); (case z9m => walk_at "m mem"); (case z9s => assumption); (case z9f => first | assumption | decide | omega); k_whole)))
  k_with "m enter2" => ((   (case kA => exact rfl); (case kF => assumption); (case kK => assumption); (case k1 => assumption); (case k2 => assumption); (case k3 => assumption); (case k4 => assumption); (case k5 => assumption);   (case k6 => k_is); (case k7 => k_is); (case k8 => k_room); (case k9 => first | exact BindsTo.of_eq rfl | exact binds_K (by k_in) rfl (by k_is) rfl rfl rfl); (case c5 => decide); (case kB => exact locs rfl); (case c2 => exact rfl); (case c3 => exact rfl); (case c4 => exact rfl)))
  k_with "truthy ref" => ((k_dflt (refine' truthy_L ?z9N ?z9m ?z9f ?_; (case z9N => assumption); (case z9m => walk_at "m mem"); (case z9f => first | assumption | omega); k_whole)))
  k_with "call type:set" => ((((with_reducible show wpAny _ _ (call (Value.type _) [Value.ref _]) _ _ _); k_dflt (refine' set_new_strsN ?z9F ?z9N ?z9m ?z9v ?z9n ?z9hh ?z9f ?_; (case z9F => assumption); (case z9N => assumption); (case z9m => walk_at "m mem"); (case z9v => assumption); (case z9n => assumption); (case z9hh => exact rfl); (case z9f => first | assumption | omega); k_whole); intro h' tk' D' o' F' N' hS' l1'; (try k_lt l1')); revert h' tk' D' o' F' N' hS' l1'; intro _ _ _ _ _ _ _ _))
  k_with "call type:set nil nil" => (((k_dflt (refine' set_new_0 ?z9F ?z9N ?_; (case z9F => assumption); (case z9N => assumption); k_whole); intro h' D' o' F' N' hS' l1'; (try k_lt l1')); revert h' D' o' F' N' hS' l1'; intro _ _ _ _ _ _ _))
  k_with "getItem ref str" => (((k_dflt (refine' getItem_D ?z9N ?z9d ?z9f ?z9m ?z9s ?z9l ?_; (case z9N => assumption); (case z9d => assumption); (case z9f => assumption); (case z9m => walk_at "m mem"); (case z9s => assumption); (case z9l => assumption); k_whole); intro v' hv'); revert v' hv'; intro _ _))
  k_with "compareOp In str ref" => ((k_dflt (refine' in_set ?z9N ?z9m ?z9d ?_; (case z9N => assumption); (case z9d => assumption); (case z9m => walk_at "m mem"); k_whole)))
  k_with "setItem ref str" => (((k_dflt (refine' setItem_K PyProof.V.same_str (strKind_is _ _ _ _) ?z9v ?z9F ?z9N ?z9U ?z9d ?z9f ?_ ?z9z; (case z9F => assumption); (case z9N => assumption); (case z9U => k_updF); (case z9d => assumption); (case z9f => assumption); (case z9z => (rw [sizeLine_eq]; omega)); (case z9v => k_flat)); intro h' o' F' N' hd' hf'; (try dsimp only at N')); revert h' o' F' N' hd' hf'; intro _ _ _ _ _ _))
  k_with "binaryOp Add str str" => (((refine PyProof.Rows.add_str (hsz := ?z9hsz) ?_); (case z9hsz => (have e1 : (Str.ofString ".").length = 1 := by decide); (have e2 : (Str.ofString "/").length = 1 := by decide); (have e3 : (Str.ofString "/.").length = 2 := by decide); rw [sizeLine_eq]; omega); intro _ _))
  k_with "eval Name" => (((with_reducible show wpAny _ _ (eval (Expr.Name _ _) (compEnvC _ _ _ _)) _ _ _); k_dflt (refine' PySem.W.LCgL.ld_own ?z9k1 ?z9k2 ?z9k3 ?z9k4 ?_; (case z9k1 => k_asm); (case z9k2 => walk_at "m mem"); (case z9k3 => assumption); (case z9k4 => walk_at "m get"); k_whole)))
  k_with "eval Name" => (((with_reducible show wpAny _ _ (eval (Expr.Name _ _) (envOfC _ _ _ _ _)) _ _ _); k_dflt (refine' nameX_L ?z9F ?z9v ?_ ?z9a ?z9b; (case z9F => k_asm); (case z9a => rfl); (case z9b => rfl); (case z9v => walk_at "m get"); k_whole)))
  k_with "callWith" => (first | with_reducible refine PyProof.Rows.callWith_method0 ?_ | with_reducible refine PyProof.Rows.callWith_builtin1 ?_ | with_reducible refine PyProof.Rows.callWith_method1 ?_)
  trivial
theorem pop_out {prog : Program} {w : World} {A : Around} {E : Value → Shared → Prop} {s : Shared} {a : Addr} {n : Nat} {Q : Value → Shared → Prop} (hA : A.handled = none) (ho : s.heap.get? a = some (listOf #[] n))
    (hE : ∀ h' tk e, Heap.NewExc s.heap h' e "IndexError" → E (.ref e) { s with heap := h', toks := tk }) : wpAny (model prog w) A (call (.builtin "list.pop") [.ref a]) Q E s :=
  call_meets PySem.F.slot_list_pop ⟨_, ho, rfl⟩ PySem.F.entry_list_pop (PySem.F.args_list_pop_1 _) (PySem.AutoSeq1.list_pop_list_0 a #[] n rfl) ⟨ho, hA, hE⟩
theorem popraise_K {H : Addr} {n : Nat} {rest : Led} {w : World} {A A₀ : Around} {s : Shared} {h₀ base : Heap} {outer : List Env} {L : Addr} {m mg mb : Str → Option Value} {mean : ExcName → Option Value} {p : Program} {loose : List Str} {env : Env} {R : Result → Shared → Prop}
 (B : Below A₀ base outer h₀) (F : Fr h₀ L s.heap m) (X₀ : (Mine.hd.heap_1 w.params).In h₀) (N : News h₀ L s.heap ((H, listOf #[] n) :: rest)) (T : Top p loose mean mg mb h₀) (hA : A.frames = some (env :: outer)) (hf : env.frame = some L) (hke : env.scope.kind = .function) (hd : A.depth < 700) (hu : A.units < 300) (hh : A.handled = none)
 (h : ∀ h' tk e g, Fr h₀ L g m → RaisedN base (env :: outer) e (.type "IndexError") ((H, listOf #[] n) :: rest) h' → g.UpToSlots h' → R (.error (.ref e)) { s with heap := h', toks := tk }) :
 codeAny (model PySem.Challenge.rw_nq0047_02.row.prog w) A (.call (.ref 35) ⟨[.ref H], []⟩) R s := by
  obtain ⟨hdl', dep', frs', gs', un'⟩ := A
  replace hA : frs' = some (env :: outer) := hA
  replace hh : hdl' = none := hh
  subst hA hh
  replace hd : dep' < _ := hd
  revert X₀
  k_fill
  intro X₀
  refine' code_defK (binds := [(Str.ofString "heap", .ref H)]) ?k1 ?k2 ?k3 ?k4 ?k5 ?kA ?kF ?kK ?k6 ?k7 ?k8 ?k9 ?kB ?_ ?c2 ?c3 ?c4 ?c5
  walk_at "m enter2"
  intro g' L' h' FG' F' N' B' X' T' hK lK
  clear F N B X₀ T
  iterate 7 walk1
  refine pop_out rfl (N' _ (.head _)).1 ?_
  intro h2 tk2 e hx
  dsimp only
  refine leave_newK B' hx F' N' ?_
  intro h3 R3 u3
  exact h _ _ _ g' FG' R3 u3
theorem caught_C {p : Program} {loose : List Str} {mean : ExcName → Option Value} {mg mb : Str → Option Value} {w : World} {A₀ : Around} {s' : Shared} {base g : Heap} {outer : List Env} {L e : Addr} {m : Str → Option Value} {b₀ : Stmt} {suite : List Stmt} {pos np : Pos} {rest : List ExceptHandler} {Q : Flow → Shared → Prop} {news : Led}
  (hst : A₀.frames = some outer) (XB : (Mine.hd.heap_1 w.params).In base) (TB : Top p loose mean mg mb base) (F : Fr base L g m) (hsm : g.UpToSlots s'.heap) (R : RaisedN base (sEnv L :: outer) e (.type "IndexError") news s'.heap)
    (k : ∀ h', Fr base L h' m → News base L h' news → g.UpToSlots h' → wpAny (model PySem.Challenge.rw_nq0047_02.row.prog w) ((A₀.deeper (sEnv L)).mark (some (.ref e))) (execs (b₀ :: suite) (sEnv L)) Q NoE { s' with heap := h' }) :
    wpAny (model PySem.Challenge.rw_nq0047_02.row.prog w) (A₀.deeper (sEnv L)) (noteFrame (.ref e) (sEnv L))
      (fun _ s₂ => wpAny (model PySem.Challenge.rw_nq0047_02.row.prog w) (A₀.deeper (sEnv L)) (setFlight (.ref e) none) (fun _ s₃ =>
        wpAny (model PySem.Challenge.rw_nq0047_02.row.prog w) (A₀.deeper (sEnv L)) (handleBy (.ref e) (sEnv L) (.ExceptHandler (some (.Name (Str.ofString "IndexError") np)) none (b₀ :: suite) pos :: rest)) Q NoE s₃) NoE s₂) NoE s' := by
  obtain ⟨B, a0, hB, hl, hfl⟩ := R
  have hL : B.get? L = none := by
    obtain ⟨_, ⟨L', _, hf, hn', _⟩, _⟩ := hfl.2.2.1
    obtain rfl : L = L' := Option.some.inj hf
    exact hn'
  refine wpAny_looks_onW (Around.frames_deeper hst) rfl hfl fun h₄ hheld₄ hsm₄ => ?_
  refine wpAny_landsW hheld₄ fun h₅ hheld hsm₅' => ?_
  have hsm₅ := hsm₄.trans hsm₅'
  have hheld' := flyingW_base hB hheld
  have F₅ := F.of_stays hheld'.1 (hsm.trans hsm₅)
  obtain ⟨ob, hob, hobc⟩ := hheld'.there
  refine wpAny_handleBy_builtin (X := "IndexError") (T := "IndexError") (b := true) ?_ ?_ ?_ ?_
  · exact PySem.F.isExc_IndexError
  · exact PySem.F.notTuple_IndexError
  · exact PySem.F.self_IndexError
  · revert XB
    k_fill
    intro XB
    refine nameX_B F₅ XB (by k_asm) (by k_is) (by boot_fast) (by decide) ⟨rfl, ⟨ob, hob, hobc⟩, ?_⟩
    rw [if_pos rfl]
    refine lands_againW hheld fun h₆ hfl₆ hsm₆ => ?_
    have u6 := (hsm.trans hsm₅).trans hsm₆
    have F₆ := F.of_stays (flyingW_base hB hfl₆).1 u6
    exact wpAny_noRaise (k h₆ F₆ (fun q hq => ⟨hfl₆.1 _ _ (hl q hq).1, (fun z => by have := (hl q hq).1; rw [z, hL] at this; cases this), (hl q hq).2⟩) u6)
end Mine
end
section
open PySem PySem.W PyProof.Rows PySem.Calls
open PyProof.Rows.LCg (lst NsObj SrcAt)
open PySem.SeqAt
set_option Elab.async false
set_option maxRecDepth 100000
set_option maxHeartbeats 8000000
namespace Mine
theorem set_back_MTail : True := by w_top off; trivial
theorem words_MTail : True := by
  k_with_none
  k_with "m s0" => ((fail_if_success (with_reducible show WStep _ _ _ _ _ _)); (fail_if_success (with_reducible show wpAny _ _ (eval (Expr.ListComp _ _ _ _) _) _ _ _)); (fail_if_success (with_reducible show wpAny _ _ (exec (Stmt.For _ _ _ _ _) _) _ _ _)); (fail_if_success (with_reducible show wpAny _ _ (exec (Stmt.Assign _ (Expr.ListComp _ _ _ _) _ _) _) _ _ _)))
  k_with "m get" => ((repeat (first | assumption | exact get_eq | refine get_ne (by decide) ?_ | rfl)))
  k_with "eval Name" => (((with_reducible show wpAny _ _ (eval (Expr.Name _ _) (envOf _ _ _ _ _)) _ _ _); k_dflt (refine' ld ?z9k1 ?z9k2 ?_; (case z9k1 => k_asm); (case z9k2 => walk_at "m get"); k_whole)))
  k_with "subscriptTail" => (((with_reducible show wpAny _ _ (subscriptTail _ _ (Value.ref _) (Value.int _ _)) _ _ _); (refine' item_h ?z9k1 ?z9k2 ?z9k3 ?z9k4 ?_; (case z9k1 => assumption); (case z9k2 => omega); (case z9k3 => omega); (case z9k4 => assumption); k_whole)))
  k_with "setItem ref int" => ((((with_reducible show wpAny _ _ (setItem (Value.ref _) (Value.int _ _) _) _ _ _); (refine' setItem_h ?z9k1 ?z9k2 ?z9k3 ?z9k4 ?z9k5 ?z9k6 ?_; (case z9k1 => assumption); (case z9k2 => assumption); (case z9k3 => assumption); (case z9k4 => omega); (case z9k5 => assumption); (case z9k6 => omega); k_whole); intro h' F' N'); revert h' F' N'; intro _ _ _))
  k_with "call builtin:len" => (((with_reducible show wpAny _ _ (call (Value.builtin _) [Value.ref _]) _ _ _); (refine' len_h ?z9k1 ?z9k2 ?_; (case z9k1 => assumption); (case z9k2 => first | assumption | (simp only [List.length_append, List.length_cons, List.length_nil]; omega)); k_whole)))
  k_with "call builtin:list.append" => ((((with_reducible show wpAny _ _ (call (Value.builtin _) [Value.ref _, _]) _ _ _); (refine' append_h ?z9k1 ?z9k2 ?z9k3 ?z9k4 ?_; (case z9k1 => assumption); (case z9k2 => assumption); (case z9k3 => assumption); (case z9k4 => omega); k_whole); intro h' F' N'); revert h' F' N'; intro _ _ _))
  k_with "call builtin:list.pop" => ((((with_reducible show wpAny _ _ (call (Value.builtin _) [Value.ref _]) _ _ _); (refine' pop_h ?z9k1 ?z9k2 ?z9k3 ?z9k4 ?_; (case z9k1 => assumption); (case z9k2 => assumption); (case z9k3 => assumption); (case z9k4 => omega); k_whole); intro h' F' N'); revert h' F' N'; intro _ _ _))
  k_with "eval Name" => (((with_reducible show wpAny _ _ (eval (Expr.Name _ _) (compEnvC _ _ _ _)) _ _ _); k_dflt (refine' PySem.W.LCgL.ld_own ?z9k1 ?z9k2 ?z9k3 ?z9k4 ?_; (case z9k1 => k_asm); (case z9k2 => exact List.Mem.head _); (case z9k3 => assumption); (case z9k4 => walk_at "m get"); k_whole)))
  k_with "m mem" => (first | assumption | exact List.Mem.head _ | exact List.mem_append.mpr (Or.inl (by assumption)) | exact List.mem_append.mpr (Or.inr (by assumption)) | (refine List.Mem.tail _ ?_; walk_at "m mem"))
  k_with "subscriptTail" => (((with_reducible show wpAny _ _ (subscriptTail _ _ (Value.ref _) (Value.int _ _)) _ _ _); (refine' item_m ?z9k1 ?z9k2 ?z9k3 ?z9k4 ?z9k5 ?_; (case z9k1 => assumption); (case z9k5 => assumption); (case z9k2 => walk_at "m mem"); (case z9k3 => omega); (case z9k4 => omega); k_whole)))
  k_with "truthy ref" => ((k_dflt (refine' truthy_D ?z9N ?z9d ?z9m ?z9s ?z9f ?_; (case z9N => assumption); (case z9d => assumption); (case z9m => walk_at "m mem"); (case z9s => assumption); (case z9f => first | assumption | decide | omega); k_whole)))
  k_with "truthy ref" => ((k_dflt (refine' truthy_L ?z9N ?z9m ?z9f ?_; (case z9N => assumption); (case z9m => walk_at "m mem"); (case z9f => first | assumption | omega); k_whole)))
  k_with "call type:set" => ((((with_reducible show wpAny _ _ (call (Value.type _) [Value.ref _]) _ _ _); k_dflt (refine' set_new_strsN ?z9F ?z9N ?z9m ?z9v ?z9n ?z9hh ?z9f ?_; (case z9F => assumption); (case z9N => assumption); (case z9m => walk_at "m mem"); (case z9v => assumption); (case z9n => assumption); (case z9hh => exact rfl); (case z9f => first | assumption | omega); k_whole); intro h' tk' D' o' F' N' hS' l1'; (try k_lt l1')); revert h' tk' D' o' F' N' hS' l1'; intro _ _ _ _ _ _ _ _))
  k_with "call type:set nil nil" => (((k_dflt (refine' set_new_0 ?z9F ?z9N ?_; (case z9F => assumption); (case z9N => assumption); k_whole); intro h' D' o' F' N' hS' l1'; (try k_lt l1')); revert h' D' o' F' N' hS' l1'; intro _ _ _ _ _ _ _))
  k_with "getItem ref str" => (((k_dflt (refine' getItem_D ?z9N ?z9d ?z9f ?z9m ?z9s ?z9l ?_; (case z9N => assumption); (case z9d => assumption); (case z9f => assumption); (case z9m => walk_at "m mem"); (case z9s => assumption); (case z9l => assumption); k_whole); intro v' hv'); revert v' hv'; intro _ _))
  k_with "compareOp In str ref" => ((k_dflt (refine' in_set ?z9N ?z9m ?z9d ?_; (case z9N => assumption); (case z9d => assumption); (case z9m => walk_at "m mem"); k_whole)))
  k_with "setItem ref str" => (((k_dflt (refine' setItem_K PyProof.V.same_str (strKind_is _ _ _ _) ?z9v ?z9F ?z9N ?z9U ?z9d ?z9f ?_ ?z9z; (case z9F => assumption); (case z9N => assumption); (case z9U => k_updF); (case z9d => assumption); (case z9f => assumption); (case z9z => (rw [sizeLine_eq]; omega)); (case z9v => k_flat)); intro h' o' F' N' hd' hf'; (try dsimp only at N')); revert h' o' F' N' hd' hf'; intro _ _ _ _ _ _))
  k_with "binaryOp Add str str" => (((refine PyProof.Rows.add_str (hsz := ?z9hsz) ?_); (case z9hsz => (have e1 : (Str.ofString ".").length = 1 := by decide); (have e2 : (Str.ofString "/").length = 1 := by decide); (have e3 : (Str.ofString "/.").length = 2 := by decide); rw [sizeLine_eq]; omega); intro _ _))
  k_with "eval Name" => (((with_reducible show wpAny _ _ (eval (Expr.Name _ _) (compEnvC _ _ _ _)) _ _ _); k_dflt (refine' PySem.W.LCgL.ld_own ?z9k1 ?z9k2 ?z9k3 ?z9k4 ?_; (case z9k1 => k_asm); (case z9k2 => walk_at "m mem"); (case z9k3 => assumption); (case z9k4 => walk_at "m get"); k_whole)))
  k_with "m on" => ((repeat' (walk_at "m s0"; (fail_if_success (with_reducible show wpAny _ _ (call (Value.ref _) _ _) _ _ _)); first | walk1 | (dsimp only; walk1) | (with_reducible refine ite_neg Bool.false_ne_true ?_) | (with_reducible refine ite_pos rfl ?_))))
  k_with "eval Name" => (((with_reducible show wpAny _ _ (eval (Expr.Name _ _) (envOfC _ _ _ _ _)) _ _ _); k_dflt (refine' nameX_L ?z9F ?z9v ?_ ?z9a ?z9b; (case z9F => k_asm); (case z9a => rfl); (case z9b => rfl); (case z9v => walk_at "m get"); k_whole)))
  k_with "callWith" => (first | with_reducible refine PyProof.Rows.callWith_method0 ?_ | with_reducible refine PyProof.Rows.callWith_builtin1 ?_ | with_reducible refine PyProof.Rows.callWith_method1 ?_)
  k_with "call builtin:list.append" => (((k_here; (with_reducible show wpAny _ _ (call (Value.builtin _) [Value.ref _, _]) _ _ _); k_dflt (refine' append_K ?z9F ?z9N ?z9U ?_ ?z9z; (case z9F => k_asm); (case z9N => k_asm); (case z9U => k_upd); (case z9z => (rw [List.size_toArray, sizeLine_eq]; omega))); intro h' F' N'; (try k_sweep)); revert h' F' N'; intro _ _ _))
  trivial
theorem tail_K {w : World} {s : Shared} {base g : Heap} {outer : List Env} {L : Addr} {m mg mb : Str → Option Value} {mean : ExcName → Option Value} {p : Program} {loose : List Str} {env0 : Env} {dep un : Nat} {gs : Option (List Code)}
 (B : Below { depth := dep, frames := some (env0 :: outer), guards := gs, units := un } base (env0 :: outer) g) (X : (Mine.hd.heap_1 w.params).In g) (T : Top p loose mean mg mb g) (hd : dep < 600) (hu : un < 200) (F : Fr g L s.heap m) {H Tl L₀ : Addr} {m₀ : Str → Option Value} {tv : List Value} {n nt : Nat} {oC oPr oPs : Obj} {rest : Led} (N : News g L s.heap (led5 H Tl L [] tv n nt oC oPr oPs rest)) (ap : Ap H Tl L rest) (ap5 : Ap5 H Tl L)
 (XB : (Mine.hd.heap_1 w.params).In base) (TB : Top p loose mean mg mb base) (F₀ : Fr base L₀ g m₀) (hT0 : (∀ p ∈ rest, p.1 ≠ L₀) ∧ Tl ≠ L₀)
 (hm1 : m (Str.ofString "heap") = some (.ref H)) (hm2 : m (Str.ofString "told") = some (.ref Tl)) (htl : tv.length < 800) {Q : Flow → Shared → Prop}
 (h : ∀ h' tk dr u, Fr base L₀ h' m₀ → h'.get? Tl = some (listOf (tv ++ [Value.str (Str.ofString "nothing left") u]).toArray (nt + 1)) → (∀ p ∈ rest, h'.get? p.1 = some p.2) → Q (.ret (.ref Tl)) { s with heap := h', toks := tk, drawn := dr }) :
 wpAny (model PySem.Challenge.rw_nq0047_02.row.prog w) (sAr dep env0 outer gs un L) (execs sTail (sEnv L)) Q NoE s := by
  have hgL : g.get? L = none := by
    cases q : g.get? L with
    | none => rfl
    | some o => have := Heap.lt_size q; exact absurd this (Nat.not_lt.mpr F.above)
  obtain ⟨oL0, hoL0, _⟩ := PyProof.Rows.LCg.ns_obj F₀.ns
  have hL0 : L₀ ≠ L := fun e => by rw [e, hgL] at hoL0; cases hoL0
  have hbL0 : base.get? L₀ = none := by
    cases q : base.get? L₀ with
    | none => rfl
    | some o => have := Heap.lt_size q; exact absurd this (Nat.not_lt.mpr F₀.above)
  have hbL : base.objs.size ≤ L := Nat.le_trans F₀.above (Nat.le_trans (Nat.le_of_lt (Heap.lt_size hoL0)) F.above)
  have hbg : ∀ b o, base.get? b = some o → g.get? b = some o := B.stays
  revert h
  unfold sTail
  have ev : sEnv L = sEnv L := rfl
  intro h
  obtain ⟨ap1, ap2, ap3, ap4, ap6⟩ := id ap
  obtain ⟨p1, p2, p3, p4, p5, p6, p7⟩ := id ap5
  have caught : ∀ (s' : Shared) (e : Addr) (gg : Heap) (b₀ : Stmt) (suite : List Stmt) (pos np : Pos) (hs : List ExceptHandler) (Q' : Flow → Shared → Prop), Fr g L gg m → RaisedN base (sEnv L :: env0 :: outer) e (.type "IndexError") (led5 H Tl L [] tv n nt oC oPr oPs rest) s'.heap → gg.UpToSlots s'.heap →
      (∀ h' oL, Fr base L h' m → News base L h' ((L₀, oL) :: led5 H Tl L [] tv n nt oC oPr oPs rest) → NsObj oL m₀ → wpAny (model PySem.Challenge.rw_nq0047_02.row.prog w) (Around.mark (sAr dep env0 outer gs un L) (some (.ref e))) (execs (b₀ :: suite) (sEnv L)) Q' NoE { s' with heap := h' }) →
      wpAny (model PySem.Challenge.rw_nq0047_02.row.prog w) (sAr dep env0 outer gs un L) (noteFrame (.ref e) (sEnv L))
      (fun _ s₂ => wpAny (model PySem.Challenge.rw_nq0047_02.row.prog w) (sAr dep env0 outer gs un L) (setFlight (.ref e) none) (fun _ s₃ =>
        wpAny (model PySem.Challenge.rw_nq0047_02.row.prog w) (sAr dep env0 outer gs un L) (handleBy (.ref e) (sEnv L) (.ExceptHandler (some (.Name (Str.ofString "IndexError") np)) none (b₀ :: suite) pos :: hs)) Q' NoE s₃) NoE s₂) NoE s' := by
    intro s' e gg b₀ suite pos np hs Q' FG R u k
    have F1 : Fr base L gg m := ⟨FG.ns, fun b o q => FG.keep b o (hbg b o q), hbL⟩
    refine caught_C rfl XB TB F1 u R ?_
    intro h' F' N' u'
    obtain ⟨oL, hoL, hns⟩ := PyProof.Rows.LCg.ns_obj (u'.ns (F₀.ns.keeps FG.keep))
    exact k h' oL F' (fun q hq => (List.mem_cons.mp hq).elim (fun e => by subst e; exact ⟨hoL, hL0, hbL0⟩) (fun hq => N' q hq)) hns
  revert caught h
  revert X
  k_fill
  intro X
  dsimp only [sAr, sEnv, topS, PySem.Challenge.pw_nq0047_02, nth, fnBody, fnScope, whBody, List.drop]
  intro h caught
  walk_at "m on"
  refine wpAny_Try_except ?_
  walk_at "m on"
  refine wpAny_call ?_
  refine popraise_K (H := H) (n := n) (rest := (Tl, listOf tv.toArray nt) :: (L + 1 + 1 + 1, oC) :: (L + 1 + 1, oPr) :: (L + 1, oPs) :: rest) (by assumption) (by assumption) (by assumption) N (by assumption) rfl rfl rfl ?_ ?_ rfl ?_
  · k_room
  · show un + 3 < 300; omega
  intro h1 tk1 e gg FG R1 u1
  dsimp only
  refine caught _ e gg _ _ _ _ _ _ FG R1 u1 ?_
  intro h2 oL F2 N2 hns
  obtain ⟨t1, t2⟩ := hT0
  k_sweep
  walk_at "m on"
  rename_i h9 F9 N9
  have fr : Fr base L₀ h9 m₀ := ⟨hns.ns (N9 _ (.head _)).1, F9.keep, F₀.above⟩
  have q9 : h9.get? Tl = some (listOf (tv.toArray.push _) (nt + 1)) := (N9 _ (.tail _ (.tail _ (.head _)))).1
  rw [show ∀ v : Value, tv.toArray.push v = (tv ++ [v]).toArray from fun v => by simp] at q9
  exact h h9 _ _ _ fr q9 fun p hp => (N9 p (.tail _ (.tail _ (.tail _ (.tail _ (.tail _ (.tail _ hp))))))).1
end Mine
end
section
set_option Elab.async false
set_option maxRecDepth 100000
namespace Mine
theorem set_back_MSrch : True := by w_top off; trivial
noncomputable def priceOf (ps : List Int) (ch : List Int) : Int := (ch.map fun k => ps.getD k.toNat 0).sum
noncomputable def keyOf (ps : List Int) (ch : List Int) : Key := (priceOf ps ch, ch)
noncomputable def nextL (ch : List Int) : List (List Int) := ((List.range 4).filter (goesOn ch)).map fun (k : Nat) => ch ++ [(k : Int)]
theorem childs_eq (ps ch : List Int) : childs ps (priceOf ps ch) ch 4 = (nextL ch).map (keyOf ps) := by
  unfold childs nextL
  rw [List.map_map]
  apply List.map_congr_left
  intro k _
  simp [keyOf, priceOf]
theorem subs_next : ∀ ch ∈ subsL, (nextL ch).Nodup ∧ ∀ d ∈ nextL ch, d ∈ subsL ∧ d ≠ [] ∧ d.dropLast = ch := by decide +kernel
theorem subs_prev : ∀ d ∈ subsL, d ≠ [] → d.dropLast ∈ subsL ∧ d ∈ nextL d.dropLast := by decide +kernel
theorem subs_nil : [] ∈ subsL := by decide +kernel
theorem subs_nodup : subsL.Nodup := by decide +kernel
theorem subs_len : subsL.length = 16 := by decide +kernel
section
variable {ps : List Int} {S : List Key}
noncomputable def PosP (ps : List Int) : Prop := ∀ k, k < 4 → 0 < ps.getD k 0
noncomputable def SortedP (ps : List Int) (S : List Key) : Prop := S.Perm (subsL.map (keyOf ps)) ∧ S.Pairwise fun a b => ltK a b = true
theorem next_lt (hp : PosP ps) {ch d : List Int} (hc : ch ∈ subsL) (hd : d ∈ nextL ch) : ltK (keyOf ps ch) (keyOf ps d) = true := by
  unfold nextL at hd
  obtain ⟨k, hk, rfl⟩ := List.mem_map.mp hd
  have hk4 : k < 4 := by have := (List.mem_filter.mp hk).1; simpa using this
  have h1 := hp k hk4
  rw [ltK_eq]
  have e : priceOf ps (ch ++ [(k : Int)]) = priceOf ps ch + ps.getD k 0 := by simp [priceOf]
  show (if priceOf ps ch = priceOf ps (ch ++ [(k : Int)]) then _ else decide (priceOf ps ch < priceOf ps (ch ++ [(k : Int)]))) = true
  rw [e, if_neg (by omega)]
  exact decide_eq_true (by omega)
theorem SortedP.mem (h : SortedP ps S) {x : Key} : x ∈ S ↔ ∃ ch ∈ subsL, keyOf ps ch = x := by rw [h.1.mem_iff, List.mem_map]
theorem SortedP.len (h : SortedP ps S) : S.length = 16 := by rw [h.1.length_eq, List.length_map, subs_len]
theorem SortedP.nodup (h : SortedP ps S) : S.Nodup := h.2.imp fun {a b} hab e => by subst e; rw [ltK_ord.irr] at hab; cases hab
theorem SortedP.after (h : SortedP ps S) {i : Nat} {z x : Key} (hz : S[i]? = some z) (hx : x ∈ S.drop (i + 1)) : ltK z x = true := by
  obtain ⟨hi, e⟩ := List.getElem?_eq_some_iff.mp hz
  have hp := h.2
  rw [← List.take_append_drop i S, List.drop_eq_getElem_cons hi] at hp
  have := (List.pairwise_append.mp hp).2.1
  rw [e] at this
  exact (List.pairwise_cons.mp this).1 x hx
theorem SortedP.before (h : SortedP ps S) {i : Nat} {z x : Key} (hz : S[i]? = some z) (hx : x ∈ S.take i) : ltK x z = true := by
  obtain ⟨hi, e⟩ := List.getElem?_eq_some_iff.mp hz
  have hp := h.2
  rw [← List.take_append_drop i S, List.drop_eq_getElem_cons hi] at hp
  exact (List.pairwise_append.mp hp).2.2 x hx z (by rw [e]; exact .head _)
/-- the keys that stand in the heap after i have gone -/
noncomputable def Front (ps : List Int) (S : List Key) (i : Nat) (x : Key) : Prop := x ∈ S.drop i ∧ (x.2 = [] ∨ keyOf ps x.2.dropLast ∈ S.take i)
noncomputable def Inv (ps : List Int) (S : List Key) (i : Nat) (hk : List Key) : Prop := HeapP ltK hk ∧ hk.Nodup ∧ ∀ x, x ∈ hk ↔ Front ps S i x
theorem front_at (hp : PosP ps) (h : SortedP ps S) {i : Nat} {z : Key} (hz : S[i]? = some z) : Front ps S i z := by
  obtain ⟨hi, e⟩ := List.getElem?_eq_some_iff.mp hz
  refine ⟨by rw [List.drop_eq_getElem_cons hi, e]; exact .head _, ?_⟩
  obtain ⟨ch, hc, rfl⟩ := h.mem.mp (List.mem_of_getElem? hz)
  by_cases hn : ch = []
  · exact .inl hn
  · obtain ⟨h1, h2⟩ := subs_prev ch hc hn
    have hlt := next_lt hp h1 h2
    have hq : keyOf ps ch.dropLast ∈ S := h.mem.mpr ⟨_, h1, rfl⟩
    rw [← List.take_append_drop i S] at hq
    rcases List.mem_append.mp hq with hq | hq
    · exact .inr hq
    · rw [List.drop_eq_getElem_cons hi, e] at hq
      rcases List.mem_cons.mp hq with hq | hq
      · rw [hq, ltK_ord.irr] at hlt; cases hlt
      · have := ltK_ord.asym (h.after hz hq); rw [hlt] at this; cases this
theorem inv_top (hp : PosP ps) (h : SortedP ps S) {i : Nat} {hk : List Key} {y : Key} (hI : Inv ps S i hk) (hy : hk[0]? = some y) : S[i]? = some y := by
  have hym : y ∈ hk := List.mem_of_getElem? hy
  have hyd := ((hI.2.2 y).mp hym).1
  have hi : i < S.length := by
    rcases Nat.lt_or_ge i S.length with h' | h'
    · exact h'
    · rw [List.drop_of_length_le h'] at hyd; cases hyd
  have hz : S[i]? = some S[i] := List.getElem?_eq_getElem hi
  generalize S[i] = z at hz
  have hzm := (hI.2.2 z).mpr (front_at hp h hz)
  have hmin := hI.1.min ltK_ord hy z hzm
  rw [List.drop_eq_getElem_cons hi] at hyd
  rcases List.mem_cons.mp hyd with e | hyd
  · rw [e]; exact List.getElem?_eq_getElem hi
  · rw [h.after hz hyd] at hmin; cases hmin
theorem inv_empty (hp : PosP ps) (h : SortedP ps S) {i : Nat} (hI : Inv ps S i []) : S.length ≤ i := by
  rcases Nat.lt_or_ge i S.length with h' | h'
  · have := (hI.2.2 _).mpr (front_at hp h (List.getElem?_eq_getElem h')); cases this
  · exact h'
theorem inv_start (h : SortedP ps S) : Inv ps S 0 [(0, [])] := by
  refine ⟨fun i p c hi _ hc => ?_, by simp, fun x => ?_⟩
  · obtain ⟨k, rfl⟩ : ∃ k, i = k + 1 := ⟨i - 1, by omega⟩
    simp at hc
  · constructor
    · intro hx
      have : x = (0, []) := by simpa using hx
      subst this
      exact ⟨by rw [List.drop_zero]; exact h.mem.mpr ⟨[], subs_nil, rfl⟩, .inl rfl⟩
    · rintro ⟨h1, h2⟩
      rw [List.drop_zero] at h1
      obtain ⟨ch, hc, rfl⟩ := h.mem.mp h1
      rcases h2 with h2 | h2
      · have : ch = [] := h2
        subst this; exact .head _
      · simp at h2
theorem inv_step (hp : PosP ps) (h : SortedP ps S) {i : Nat} {hk ks' : List Key} {k0 : Key} (hI : Inv ps S i hk) (h0 : hk[0]? = some k0) (hh : HeapP ltK ks') (hpm : (k0 :: ks').Perm (hk ++ childs ps k0.1 k0.2 4)) : Inv ps S (i + 1) ks' := by
  have hz := inv_top hp h hI h0
  obtain ⟨hi, e0⟩ := List.getElem?_eq_some_iff.mp hz
  obtain ⟨ch, hc, rfl⟩ := h.mem.mp (List.mem_of_getElem? hz)
  have hch : childs ps (keyOf ps ch).1 (keyOf ps ch).2 4 = (nextL ch).map (keyOf ps) := childs_eq ps ch
  rw [hch] at hpm
  obtain ⟨n1, n2⟩ := subs_next ch hc
  have hdrop : S.drop i = keyOf ps ch :: S.drop (i + 1) := by rw [List.drop_eq_getElem_cons hi, e0]
  have htake : ∀ x, x ∈ S.take (i + 1) ↔ x ∈ S.take i ∨ x = keyOf ps ch := by
    intro x
    rw [List.take_add_one, hz]
    simp
  have hnd := h.nodup
  have hsplit : ∀ x, x ∈ S ↔ x ∈ S.take i ∨ x = keyOf ps ch ∨ x ∈ S.drop (i + 1) := by
    intro x
    rw [← List.mem_cons, ← hdrop, ← List.mem_append, List.take_append_drop]
  have inj : ∀ {a b : List Int}, keyOf ps a = keyOf ps b → a = b := fun e => congrArg Prod.snd e
  have hkd : ∀ d ∈ nextL ch, keyOf ps d ∈ S.drop (i + 1) := by
    intro d hd
    have hl := next_lt hp hc hd
    rcases (hsplit _).mp (h.mem.mpr ⟨d, (n2 d hd).1, rfl⟩) with q | q | q
    · have := ltK_ord.asym (h.before hz q); rw [hl] at this; cases this
    · rw [q, ltK_ord.irr] at hl; cases hl
    · exact q
  have hnot : keyOf ps ch ∉ S.take i := by
    intro q
    have := h.before hz q
    rw [ltK_ord.irr] at this; cases this
  have hdis : ∀ x ∈ hk, x ∉ (nextL ch).map (keyOf ps) := by
    intro x hx hm
    obtain ⟨d, hd, rfl⟩ := List.mem_map.mp hm
    obtain ⟨_, q⟩ := (hI.2.2 _).mp hx
    rcases q with q | q
    · exact (n2 d hd).2.1 q
    · have : keyOf ps d.dropLast ∈ S.take i := q
      rw [(n2 d hd).2.2] at this
      exact hnot this
  have hnd2 : (hk ++ (nextL ch).map (keyOf ps)).Nodup := by
    rw [List.nodup_append]
    refine ⟨hI.2.1, ?_, fun a ha b hb e => hdis a ha (e ▸ hb)⟩
    rw [List.Nodup, List.pairwise_map]
    exact n1.imp fun hne e => hne (inj e)
  have hnd3 := (hpm.nodup_iff).mpr hnd2
  obtain ⟨hn0, hnk⟩ := List.nodup_cons.mp hnd3
  refine ⟨hh, hnk, fun x => ?_⟩
  have hmem : x ∈ ks' ↔ x ≠ keyOf ps ch ∧ (x ∈ hk ∨ x ∈ (nextL ch).map (keyOf ps)) := by
    rw [← List.mem_append, ← hpm.mem_iff, List.mem_cons]
    constructor
    · intro q; exact ⟨fun e => hn0 (e ▸ q), .inr q⟩
    · rintro ⟨q1, q2 | q2⟩
      · exact absurd q2 q1
      · exact q2
  rw [hmem]
  constructor
  · rintro ⟨q1, q2 | q2⟩
    · obtain ⟨a, b⟩ := (hI.2.2 x).mp q2
      rw [hdrop] at a
      rcases List.mem_cons.mp a with a | a
      · exact absurd a q1
      · exact ⟨a, b.imp id fun b => (htake _).mpr (.inl b)⟩
    · obtain ⟨d, hd, rfl⟩ := List.mem_map.mp q2
      exact ⟨hkd d hd, .inr ((htake _).mpr (.inr (by show keyOf ps d.dropLast = _; rw [(n2 d hd).2.2])))⟩
  · rintro ⟨a, b⟩
    have hxS : x ∈ S := List.mem_of_mem_drop a
    have hx0 : x ≠ keyOf ps ch := fun e => by
      subst e
      have := h.after hz a
      rw [ltK_ord.irr] at this; cases this
    refine ⟨hx0, ?_⟩
    have hxd : x ∈ S.drop i := by rw [hdrop]; exact .tail _ a
    rcases b with b | b
    · exact .inl ((hI.2.2 x).mpr ⟨hxd, .inl b⟩)
    · rcases (htake _).mp b with b | b
      · exact .inl ((hI.2.2 x).mpr ⟨hxd, .inr b⟩)
      · obtain ⟨d, hd, rfl⟩ := h.mem.mp hxS
        have e : d.dropLast = ch := inj b
        by_cases hn : d = []
        · exact .inl ((hI.2.2 _).mpr ⟨hxd, .inl hn⟩)
        · exact .inr (List.mem_map.mpr ⟨d, by rw [← e]; exact (subs_prev d hd hn).2, rfl⟩)
end
/-- what goes out up to the first that is as wished, and whether there is one -/
noncomputable def resP (ok : Key → Bool) : List Key → List Key × Bool
  | [] => ([], false)
  | k :: r => if ok k then ([k], true) else ((k :: (resP ok r).1), (resP ok r).2)
theorem resP_go (ok : Key → Bool) : ∀ (a b : List Key), (∀ k ∈ a, ok k = false) → resP ok (a ++ b) = (a ++ (resP ok b).1, (resP ok b).2)
  | [], _, _ => rfl
  | k :: r, b, h => by
    have := resP_go ok r b fun x hx => h x (.tail _ hx)
    rw [List.cons_append, resP, if_neg (by rw [h k (.head _)]; exact Bool.false_ne_true), this]
    rfl
end Mine
end
section
open PySem PySem.W PyProof.Rows PySem.Calls PyProof.Rows.LCg
set_option Elab.async false
set_option maxRecDepth 100000
set_option maxHeartbeats 1000000
namespace Mine
theorem set_back_MSearchB : True := by w_top off; trivial
section
variable {K : Frag} {prog : Program} {w : World} {A A₀ : Around} {s : Shared} {h₀ base : Heap} {L : Addr} {m mg mb : Str → Option Value} {mean : ExcName → Option Value} {p : Program} {loose : List Str} {news : List (Addr × Obj)}
/-- the opening of a call whose end is told by what is wanted alone -/
theorem code_defCR {env : Env} {outer : List Env} {R : Result → Shared → Prop} {name qual : Str} {params : Arguments} {body : List Stmt} {scope : Scope} {dV kV doc pm cdv ct oc : Value} {an od : Option Addr} {osl : Array (Option Value)} {f : Addr} {args : Args} {binds : List (Str × Value)}
    (B : Below A₀ base outer h₀) (F : Fr h₀ L s.heap m) (X₀ : K.In h₀) (N : News h₀ L s.heap news) (T : Top p loose mean mg mb h₀) (hA : A.frames = some (env :: outer)) (hf : env.frame = some L) (hke : env.scope.kind = .function)
    (ho : K.lookup f = some ⟨oc, od, .func (fnOf name qual params body scope dV kV doc pm an cdv ct), osl⟩) (hcd : codeIn K cdv qual = true) (hroom : A.depth < recursionLimit)
    (hbind : BindsTo s (fnOf name qual params body scope dV kV doc pm an cdv ct) args binds) (hkind : (binds.all fun y => scope.names.lookup y.1 == some .local || scope.names.lookup y.1 == some .cell) = true)
    (hnd : ((cellsFrom 0 scope.names []).map (·.1)).Nodup)
    (h : ∀ g L' h₁ tk cells, Fr h₀ L g m → Fr g L' h₁ (bindL (envOfC qual scope L' f cdv).kindOf binds fun _ => none) → News g L' h₁ (cells ++ news) →
      CellsAre (bindC (envOfC qual scope L' f cdv).kindOf binds fun _ => none) (cellsFrom (L' + 1) scope.names []) cells → Below A base (env :: outer) g → K.In g → Top p loose mean mg mb g → (∀ p ∈ news, p.1 < L') → Kept s.heap g (news.map (·.1)) →
      wpAny (model prog w) (A.deeper (envOfC qual scope L' f cdv)) (execs body (envOfC qual scope L' f cdv))
        (fun fl s' => R (.ok (.ret (match fl with | .ret v => v | _ => .none))) s')
        (fun e s' => wpAny (model prog w) (A.deeper (envOfC qual scope L' f cdv)) (leaving (envOfC qual scope L' f cdv) e) (fun _ s'' => R (.error e) s'') (fun e' s'' => R (.error e') s'') s')
        { s with heap := h₁, toks := tk })
    (hco : scope.isCoroutine = false) (hgen : scope.isGenerator = false) (hk : scope.kind = .function) : codeAny (model prog w) A (.call (.ref f) args) R s := by
  obtain ⟨FG, BG, st, lv⟩ := groundX (R := R) B F N hA hf hke
  refine codeAny_call_function hroom ((X₀.keeps F.keep) _ _ ho) rfl hco hgen rfl (codeRec_of (X₀.keeps F.keep) hcd) (hbind _ _ _ _ ?_)
  refine wpAny_newFunctionEnv_cells hk (kindsX hkind _) fun env' he s' x => ?_
  subst he
  refine ⟨(T.nolimit.keeps F.keep).keeps x.toInCall.keep, codeAny_func ?_⟩
  obtain ⟨h₁, tk, rfl, _⟩ := x.done
  have hk₁ := x.toInCall.keep
  obtain ⟨cells, NC, Y⟩ := Cl.news (h₀ := s.heap) (Nat.le_refl _) fun n c hm => ⟨x.cell n c (lookup_of_mem_nodup (cellsFrom_names scope.names 0 (s.heap.objs.size + 1) [] [] rfl ▸ hnd) hm), x.above n c hm⟩
  refine wpAny_mono (h _ s.heap.objs.size h₁ tk cells FG ⟨x.toInCall.ns, fun b o e => hk₁ b o (of_hideAll _ e), Nat.le_of_eq (hideAll_size _ _)⟩ (fun p hp => ?_) Y BG (X₀.keeps st) (T.keeps st) (fun p hp => Heap.lt_size (N p hp).1) (fun b o e hb => hideAll_get _ e hb)) (fun fl s' hl => hl) fun _ _ y => y
  rcases List.mem_append.mp hp with hp | hp
  · refine ⟨(NC p hp).1, (NC p hp).2.1, ?_⟩
    cases q : (hideAll s.heap (news.map (·.1))).get? p.1 with
    | none => rfl
    | some o => have := of_hideAll _ q; rw [(NC p hp).2.2] at this; cases this
  · exact ⟨hk₁ _ _ (N p hp).1, Nat.ne_of_lt (Heap.lt_size (N p hp).1), hideAll_none _ (List.mem_map_of_mem hp)⟩
end
/-- from the callee's base to the caller's -/
theorem back_fr {h₀ g h : Heap} {L L' : Addr} {m m' : Str → Option Value} (FG : Fr h₀ L g m) (F' : Fr g L' h m') : Fr h₀ L h m := FG.keeps F'.keep
theorem back_news {h₀ g h : Heap} {L L' : Addr} {m : Str → Option Value} {news : Led} (FG : Fr h₀ L g m) (N' : News g L' h news) : News h₀ L h news := by
  intro p hp
  obtain ⟨a, b, c⟩ := N' p hp
  refine ⟨a, fun e => ?_, ?_⟩
  · obtain ⟨o, ho, _⟩ := ns_obj FG.ns
    rw [← e, c] at ho; cases ho
  · cases q : h₀.get? p.1 with
    | none => rfl
    | some o => rw [FG.keep _ _ q] at c; cases c
/-- what the search tells, item by item -/
noncomputable def ItemIn (led : Led) (v : Value) (k : Key) : Prop := ∃ P v0 D ts n, v = .ref P ∧ (P, tupOf [v0, .ref D]) ∈ led ∧ KeyIn led v0 k ∧ (D, listOf (List.toArray ts) n) ∈ led ∧ IntsAre ts (toldP k.2)
theorem ItemIn.mono {l l' : Led} {v : Value} {k : Key} (h : ItemIn l v k) (hs : ∀ p ∈ l, p ∈ l') : ItemIn l' v k := by
  obtain ⟨P, v0, D, ts, n, e, h1, h2, h3, h4⟩ := h
  exact ⟨P, v0, D, ts, n, e, hs _ h1, h2.mono hs, hs _ h3, h4⟩
noncomputable def ItemsIn (led : Led) (vs : List Value) (ks : List Key) : Prop := vs.length = ks.length ∧ ∀ i (h : i < ks.length), ∃ v, vs[i]? = some v ∧ ItemIn led v ks[i]
theorem ItemsIn.mono {l l' : Led} {vs : List Value} {ks : List Key} (h : ItemsIn l vs ks) (hs : ∀ p ∈ l, p ∈ l') : ItemsIn l' vs ks :=
  ⟨h.1, fun i hi => by obtain ⟨v, e, hk⟩ := h.2 i hi; exact ⟨v, e, hk.mono hs⟩⟩
theorem ItemsIn.nil {l : Led} : ItemsIn l [] [] := ⟨rfl, fun i h => by simp at h⟩
theorem ItemsIn.snoc {l : Led} {vs : List Value} {ks : List Key} {v : Value} {k : Key} (h : ItemsIn l vs ks) (hk : ItemIn l v k) : ItemsIn l (vs ++ [v]) (ks ++ [k]) := by
  refine ⟨by simp [h.1], fun i hi => ?_⟩
  have hl := h.1
  by_cases e : i < ks.length
  · obtain ⟨u, hu, hk2⟩ := h.2 i e
    exact ⟨u, by rw [List.getElem?_append_left (by omega)]; exact hu, by rw [List.getElem_append_left e]; exact hk2⟩
  · have : i = ks.length := by simp at hi; omega
    subst this
    exact ⟨v, by rw [List.getElem?_append_right (by omega), hl]; simp, by simpa using hk⟩
/-- the search's answer -/
noncomputable def ToldIn (led : Led) (tv : List Value) (r : List Key × Bool) : Prop := ∃ its, ItemsIn led its r.1 ∧ ((r.2 = true ∧ tv = its) ∨ (r.2 = false ∧ ∃ u, tv = its ++ [.str (Str.ofString "nothing left") u]))
noncomputable def okK (wi : List Int) (k : Key) : Bool := wishedB (toldP k.2) wi
end Mine
end
section
open PySem PySem.W PyProof.Rows PySem.Calls
open PyProof.Rows.LCg (lst NsObj SrcAt)
open PySem.SeqAt
set_option Elab.async false
set_option maxRecDepth 100000
set_option maxHeartbeats 8000000
namespace Mine
theorem set_back_MSturn : True := by w_top off; trivial
theorem words_MSturn : True := by
  k_with_none
  k_with "m get" => ((repeat (first | assumption | exact get_eq | refine get_ne (by decide) ?_ | rfl)))
  k_with "eval Name" => (((with_reducible show wpAny _ _ (eval (Expr.Name _ _) (envOf _ _ _ _ _)) _ _ _); k_dflt (refine' ld ?z9k1 ?z9k2 ?_; (case z9k1 => k_asm); (case z9k2 => walk_at "m get"); k_whole)))
  k_with "subscriptTail" => (((with_reducible show wpAny _ _ (subscriptTail _ _ (Value.ref _) (Value.int _ _)) _ _ _); (refine' item_h ?z9k1 ?z9k2 ?z9k3 ?z9k4 ?_; (case z9k1 => assumption); (case z9k2 => omega); (case z9k3 => omega); (case z9k4 => assumption); k_whole)))
  k_with "setItem ref int" => ((((with_reducible show wpAny _ _ (setItem (Value.ref _) (Value.int _ _) _) _ _ _); (refine' setItem_h ?z9k1 ?z9k2 ?z9k3 ?z9k4 ?z9k5 ?z9k6 ?_; (case z9k1 => assumption); (case z9k2 => assumption); (case z9k3 => assumption); (case z9k4 => omega); (case z9k5 => assumption); (case z9k6 => omega); k_whole); intro h' F' N'); revert h' F' N'; intro _ _ _))
  k_with "call builtin:len" => (((with_reducible show wpAny _ _ (call (Value.builtin _) [Value.ref _]) _ _ _); (refine' len_h ?z9k1 ?z9k2 ?_; (case z9k1 => assumption); (case z9k2 => first | assumption | (simp only [List.length_append, List.length_cons, List.length_nil]; omega)); k_whole)))
  k_with "call builtin:list.append" => ((((with_reducible show wpAny _ _ (call (Value.builtin _) [Value.ref _, _]) _ _ _); (refine' append_h ?z9k1 ?z9k2 ?z9k3 ?z9k4 ?_; (case z9k1 => assumption); (case z9k2 => assumption); (case z9k3 => assumption); (case z9k4 => omega); k_whole); intro h' F' N'); revert h' F' N'; intro _ _ _))
  k_with "call builtin:list.pop" => ((((with_reducible show wpAny _ _ (call (Value.builtin _) [Value.ref _]) _ _ _); (refine' pop_h ?z9k1 ?z9k2 ?z9k3 ?z9k4 ?_; (case z9k1 => assumption); (case z9k2 => assumption); (case z9k3 => assumption); (case z9k4 => omega); k_whole); intro h' F' N'); revert h' F' N'; intro _ _ _))
  k_with "eval Name" => (((with_reducible show wpAny _ _ (eval (Expr.Name _ _) (compEnvC _ _ _ _)) _ _ _); k_dflt (refine' PySem.W.LCgL.ld_own ?z9k1 ?z9k2 ?z9k3 ?z9k4 ?_; (case z9k1 => k_asm); (case z9k2 => exact List.Mem.head _); (case z9k3 => assumption); (case z9k4 => walk_at "m get"); k_whole)))
  k_with "m mem" => (first | assumption | exact List.Mem.head _ | exact List.mem_append.mpr (Or.inl (by assumption)) | exact List.mem_append.mpr (Or.inr (by assumption)) | (refine List.Mem.tail _ ?_; walk_at "m mem"))
  k_with "subscriptTail" => (((with_reducible show wpAny _ _ (subscriptTail _ _ (Value.ref _) (Value.int _ _)) _ _ _); (refine' item_m ?z9k1 ?z9k2 ?z9k3 ?z9k4 ?z9k5 ?_; (case z9k1 => assumption); (case z9k5 => assumption); (case z9k2 => walk_at "m mem"); (case z9k3 => omega); (case z9k4 => omega); k_whole)))
  k_with "truthy ref" => ((k_dflt (refine' truthy_D ?z9N ?z9d ?z9m ?z9s ?z9f ?_; (case z9N => assumption); (case z9d => assumption); (case z9m => walk_at "m mem"); (case z9s => assumption); (case z9f => first | assumption | decide | omega); k_whole)))
  k_with "truthy ref" => ((k_dflt (refine' truthy_L ?z9N ?z9m ?z9f ?_; (case z9N => assumption); (case z9m => walk_at "m mem"); (case z9f => first | assumption | omega); k_whole)))
  k_with "call type:set" => ((((with_reducible show wpAny _ _ (call (Value.type _) [Value.ref _]) _ _ _); k_dflt (refine' set_new_strsN ?z9F ?z9N ?z9m ?z9v ?z9n ?z9hh ?z9f ?_; (case z9F => assumption); (case z9N => assumption); (case z9m => walk_at "m mem"); (case z9v => assumption); (case z9n => assumption); (case z9hh => exact rfl); (case z9f => first | assumption | omega); k_whole); intro h' tk' D' o' F' N' hS' l1'; (try k_lt l1')); revert h' tk' D' o' F' N' hS' l1'; intro _ _ _ _ _ _ _ _))
  k_with "call type:set nil nil" => (((k_dflt (refine' set_new_0 ?z9F ?z9N ?_; (case z9F => assumption); (case z9N => assumption); k_whole); intro h' D' o' F' N' hS' l1'; (try k_lt l1')); revert h' D' o' F' N' hS' l1'; intro _ _ _ _ _ _ _))
  k_with "getItem ref str" => (((k_dflt (refine' getItem_D ?z9N ?z9d ?z9f ?z9m ?z9s ?z9l ?_; (case z9N => assumption); (case z9d => assumption); (case z9f => assumption); (case z9m => walk_at "m mem"); (case z9s => assumption); (case z9l => assumption); k_whole); intro v' hv'); revert v' hv'; intro _ _))
  k_with "compareOp In str ref" => ((k_dflt (refine' in_set ?z9N ?z9m ?z9d ?_; (case z9N => assumption); (case z9d => assumption); (case z9m => walk_at "m mem"); k_whole)))
  k_with "setItem ref str" => (((k_dflt (refine' setItem_K PyProof.V.same_str (strKind_is _ _ _ _) ?z9v ?z9F ?z9N ?z9U ?z9d ?z9f ?_ ?z9z; (case z9F => assumption); (case z9N => assumption); (case z9U => k_updF); (case z9d => assumption); (case z9f => assumption); (case z9z => (rw [sizeLine_eq]; omega)); (case z9v => k_flat)); intro h' o' F' N' hd' hf'; (try dsimp only at N')); revert h' o' F' N' hd' hf'; intro _ _ _ _ _ _))
  k_with "binaryOp Add str str" => (((refine PyProof.Rows.add_str (hsz := ?z9hsz) ?_); (case z9hsz => (have e1 : (Str.ofString ".").length = 1 := by decide); (have e2 : (Str.ofString "/").length = 1 := by decide); (have e3 : (Str.ofString "/.").length = 2 := by decide); rw [sizeLine_eq]; omega); intro _ _))
  k_with "eval Name" => (((with_reducible show wpAny _ _ (eval (Expr.Name _ _) (compEnvC _ _ _ _)) _ _ _); k_dflt (refine' PySem.W.LCgL.ld_own ?z9k1 ?z9k2 ?z9k3 ?z9k4 ?_; (case z9k1 => k_asm); (case z9k2 => walk_at "m mem"); (case z9k3 => assumption); (case z9k4 => walk_at "m get"); k_whole)))
  k_with "eval Name" => (((with_reducible show wpAny _ _ (eval (Expr.Name _ _) (envOfC _ _ _ _ _)) _ _ _); k_dflt (refine' nameX_L ?z9F ?z9v ?_ ?z9a ?z9b; (case z9F => k_asm); (case z9a => rfl); (case z9b => rfl); (case z9v => walk_at "m get"); k_whole)))
  k_with "callWith" => (first | with_reducible refine PyProof.Rows.callWith_method0 ?_ | with_reducible refine PyProof.Rows.callWith_builtin1 ?_ | with_reducible refine PyProof.Rows.callWith_method1 ?_)
  trivial
theorem search_turn {w : World} {s : Shared} {base g : Heap} {outer : List Env} {L : Addr} {m mg mb : Str → Option Value} {mean : ExcName → Option Value} {p : Program} {loose : List Str} {env0 : Env} {dep un : Nat} {gs : Option (List Code)}
 (B : Below { depth := dep, frames := some (env0 :: outer), guards := gs, units := un } base (env0 :: outer) g) (X : (Mine.hd.heap_1 w.params).In g) (T : Top p loose mean mg mb g) (hd : dep < 600) (hu : un < 200) (F : Fr g L s.heap m) {H Tl pa ca wa : Addr} {hv tv cvs pv wv : List Value} {n nt qp qc qw i : Nat} {oC oPr oPs : Obj} {vC vPr : Option Value} {rest : Led} {ps wi : List Int} {S ks : List Key}
 (N : News g L s.heap (led5 H Tl L hv tv n nt oC oPr oPs rest)) (ap : Ap H Tl L rest) (ap5 : Ap5 H Tl L) (hC : oC.data = .cell vC) (hPr : oPr.data = .cell vPr) (hPs : oPs.data = .cell (some (.ref pa)))
 (hm1 : m (Str.ofString "heap") = some (.ref H)) (hm2 : m (Str.ofString "told") = some (.ref Tl)) (hm3 : m (Str.ofString "calls") = some (.ref ca)) (hm4 : m (Str.ofString "wishes") = some (.ref wa))
 (hpa : (pa, listOf pv.toArray qp) ∈ rest) (hca : (ca, listOf cvs.toArray qc) ∈ rest) (hwa : (wa, listOf wv.toArray qw) ∈ rest) (hcs : CallsOk cvs rest callsL) (hp : IntsAre pv ps) (hpl : ps.length = 4) (hpos : PosP ps) (hw : IntsAre wv wi) (hwl : wi.length = 6) (hS : SortedP ps S)
 (hk : KeysIn rest hv ks) (hI : Inv ps S i ks) (hit : ItemsIn rest tv (S.take i)) (hvl : hv.length ≤ 1 + 4 * i) (hi : i ≤ 16) {k0 : Key} (hk0 : ks[0]? = some k0) {Q : Flow → Shared → Prop}
 (hret : ∀ h' tk dr m' hv' tv' n' nt' oC oPr rest', Fr g L h' m' → News g L h' (led5 H Tl L hv' tv' n' nt' oC oPr oPs rest') → (∀ p ∈ rest, p ∈ rest') → ItemsIn rest' tv' (S.take (i + 1)) → okK wi k0 = true → Q (.ret (.ref Tl)) { s with heap := h', toks := tk, drawn := dr })
 (hnext : ∀ h' tk dr m' hv' tv' n' nt' oC oPr vC vPr rest' ks', Fr g L h' m' → m' (Str.ofString "heap") = some (.ref H) → m' (Str.ofString "told") = some (.ref Tl) → m' (Str.ofString "calls") = some (.ref ca) → m' (Str.ofString "wishes") = some (.ref wa) →
   News g L h' (led5 H Tl L hv' tv' n' nt' oC oPr oPs rest') → Ap H Tl L rest' → oC.data = .cell vC → oPr.data = .cell vPr → (∀ p ∈ rest, p ∈ rest') → KeysIn rest' hv' ks' → Inv ps S (i + 1) ks' → ItemsIn rest' tv' (S.take (i + 1)) → okK wi k0 = false → hv'.length ≤ 1 + 4 * (i + 1) → Q .next { s with heap := h', toks := tk, drawn := dr }) :
 wpAny (model PySem.Challenge.rw_nq0047_02.row.prog w) (sAr dep env0 outer gs un L) (execs (sTurn 0) (sEnv L)) Q NoE s := by
  have hSi := inv_top hpos hS hI hk0
  have hi16 : i < 16 := by have := (List.getElem?_eq_some_iff.mp hSi).1; rw [hS.len] at this; exact this
  have htake : S.take (i + 1) = S.take i ++ [k0] := by rw [List.take_add_one, hSi]; rfl
  obtain ⟨ch, hch, hkey⟩ := hS.mem.mp (List.mem_of_getElem? hSi)
  obtain ⟨v0, hv0, hkv0⟩ := hk.2 0 (List.getElem?_eq_some_iff.mp hk0).1
  rw [(List.getElem?_eq_some_iff.mp hk0).2] at hkv0
  have hkv0' := hkv0
  obtain ⟨a, c, u, cv, rfl, ha, hc, hic⟩ := hkv0
  have hk2 : k0.2 = ch := by rw [← hkey]; rfl
  have hk1 : k0.1 = priceOf ps ch := by rw [← hkey]; rfl
  rw [hk2] at hic
  have htl : tv.length ≤ 16 := by rw [hit.1, List.length_take]; omega
  have hwl2 : wi.length = (toldP ch).length := by
    rw [hwl]; unfold toldP; rw [(runS_length _ _ _ _).1]; rfl
  refine turn0 B X T hd hu F N ap ap5 hC hPr hm1 hv0 ha ?_
  intro h1 tk1 oC1 oPr1 F1 N1 dC dPr
  refine turn1 B X T hd hu F1 N1 ap dC hm3 hc hic hch hca hcs ?_
  intro h2 tk2 dr2 D ts F2 N2 ap2 hts
  refine turn2 B X T hd hu F2 N2 ap2 dC dPr hPs (.tail _ hc) hic hch (.tail _ hpa) hp hpl ?_
  intro h3 tk3 dr3 Dl ls ex F3 N3 ap3 hls
  have sub : ∀ p ∈ rest, p ∈ (Dl, lst ls) :: (ex ++ (D, lst ts) :: rest) := fun p hp => .tail _ (List.mem_append.mpr (.inr (.tail _ hp)))
  have subx : ∀ p ∈ ex ++ (D, lst ts) :: rest, p ∈ (Dl, lst ls) :: (ex ++ (D, lst ts) :: rest) := fun p hp => .tail _ hp
  have hD : (D, lst ts) ∈ (Dl, lst ls) :: (ex ++ (D, lst ts) :: rest) := .tail _ (List.mem_append.mpr (.inr (.head _)))
  refine turn3 B X T hd hu F3 N3 (D := D) (ts := ts) (ai := toldP ch) (by walk_at "m get") (by walk_at "m get") hD (sub _ hwa) hts hw hwl2 (by rw [← hwl2, hwl]; decide) ?_
  intro h4 tk4 dr4 F4 N4
  generalize hrest4 : (Dl, lst ls) :: (ex ++ (D, lst ts) :: rest) = rest4 at N4 ap3 sub subx hD
  have hDl : (Dl, lst ls) ∈ rest4 := by rw [← hrest4]; exact .head _
  have hls4 := hls.mono subx
  have hk4 := hk.mono sub
  have hcl : (childs ps (k0).1 ch 4).length ≤ 4 := by unfold childs; rw [List.length_map]; exact Nat.le_trans (List.length_filter_le _ _) (by simp)
  have item : ∀ (P : Addr) (l : Led), (∀ p ∈ rest4, p ∈ l) → (P, tupOf [.ref a, .ref D]) ∈ l → ItemIn l (.ref P) k0 := fun P l hl hP => ⟨P, .ref a, D, ts, _, rfl, hP, hkv0'.mono fun p hp => hl p (sub p hp), hl _ hD, by rw [hk2]; exact hts⟩
  have hok : okK wi k0 = wishedB (toldP ch) wi := by unfold okK; rw [hk2]
  by_cases hdone : wishedB (toldP ch) wi = true ∨ ls = []
  · refine turn4a B X T hd hu F4 N4 ap3 ap5 (Da := D) (Dl := Dl) (ls := ls) (dn := wishedB (toldP ch) wi) (by walk_at "m get") (by walk_at "m get") (by walk_at "m get") (by walk_at "m get") (by walk_at "m get") hDl hdone hk4 hI.1 hk0 (by omega) (by omega) ?_
    intro h5 tk5 P hv' n' v0' ks' F5 N5 ap5' e0 hk5 hh5 pm5
    rw [hv0] at e0
    obtain rfl := Option.some.inj e0
    have subP : ∀ p ∈ rest4, p ∈ (P, tupOf [.ref a, .ref D]) :: rest4 := fun p hp => .tail _ hp
    have hits : ItemsIn ((P, tupOf [.ref a, .ref D]) :: rest4) (tv ++ [.ref P]) (S.take (i + 1)) := by
      rw [htake]
      exact (hit.mono fun p hp => subP p (sub p hp)).snoc (item P _ subP (.head _))
    cases hb : wishedB (toldP ch) wi with
    | true =>
      rw [if_pos rfl]
      exact hret h5 tk5 dr4 _ _ _ _ _ _ _ _ F5 N5 (fun p hp => subP p (sub p hp)) hits (by rw [hok, hb])
    | false =>
      rw [if_neg Bool.false_ne_true]
      have hls0 : ls = [] := hdone.resolve_left (by rw [hb]; exact Bool.false_ne_true)
      have hc0 : childs ps k0.1 k0.2 4 = [] := by
        have := hls.1
        rw [hls0] at this
        rw [hk2]
        exact List.eq_nil_of_length_eq_zero this.symm
      have hI' : Inv ps S (i + 1) ks' := inv_step hpos hS hI hk0 hh5 (by rw [hc0, List.append_nil]; exact pm5)
      refine hnext h5 tk5 dr4 _ hv' _ _ _ _ _ _ _ _ ks' F5 ?_ ?_ ?_ ?_ N5 ap5' dC dPr (fun p hp => subP p (sub p hp)) (hk5.mono subP) hI' hits (by rw [hok, hb]) ?_
      · walk_at "m get"
      · walk_at "m get"
      · walk_at "m get"
      · walk_at "m get"
      · have := pm5.length_eq
        rw [List.length_cons, ← hk5.1, ← hk.1] at this
        omega
  · obtain ⟨hd1, hd2⟩ := not_or.mp hdone
    have hb : wishedB (toldP ch) wi = false := by simpa using hd1
    obtain ⟨l0, lr, rfl⟩ : ∃ l0 lr, ls = l0 :: lr := by
      cases ls with
      | nil => exact absurd rfl hd2
      | cons x r => exact ⟨x, r, rfl⟩
    have hlrl : lr.length < 300 := by have := hls.1; simp at this; rw [hk2] at *; omega
    rw [hb] at F4
    refine turn4b B X T hd hu F4 N4 ap3 ap5 (Da := D) (Dl := Dl) (ca := ca) (wa := wa) (l0 := l0) (lr := lr) (by walk_at "m get") (by walk_at "m get") (by walk_at "m get") (by walk_at "m get") (by walk_at "m get") (by walk_at "m get") (by walk_at "m get") hDl hk4 hls4 hI.1 hk0 (by omega) hlrl (by omega) ?_
    intro h5 tk5 dr5 P hv' n' v0' ks' m5 Ds os F5 e1 e2 e3 e4 N5 ap5' e0 hk5 hh5 pm5
    rw [hv0] at e0
    obtain rfl := Option.some.inj e0
    have subP : ∀ p ∈ rest4, p ∈ (Ds, os) :: (P, tupOf [.ref a, .ref D]) :: rest4 := fun p hp => .tail _ (.tail _ hp)
    have hits : ItemsIn ((Ds, os) :: (P, tupOf [.ref a, .ref D]) :: rest4) (tv ++ [.ref P]) (S.take (i + 1)) := by
      rw [htake]
      exact (hit.mono fun p hp => subP p (sub p hp)).snoc (item P _ subP (.tail _ (.head _)))
    have hI' : Inv ps S (i + 1) ks' := inv_step hpos hS hI hk0 hh5 (by rw [hk2]; exact pm5)
    refine hnext h5 tk5 dr5 m5 hv' _ _ _ _ _ _ _ _ ks' F5 e1 e2 e3 e4 N5 ap5' dC dPr (fun p hp => subP p (sub p hp)) (hk5.mono subP) hI' hits (by rw [hok, hb]) ?_
    have := pm5.length_eq
    rw [List.length_cons, List.length_append, ← hk5.1, ← hk.1] at this
    omega
end Mine
end
section
open PySem PySem.W PyProof.Rows PySem.Calls
open PyProof.Rows.LCg (lst NsObj SrcAt)
open PySem.SeqAt
set_option Elab.async false
set_option maxRecDepth 100000
set_option maxHeartbeats 8000000
namespace Mine
theorem set_back_MSearch : True := by w_top off; trivial
theorem words_MSearch : True := by
  k_with_none
  k_with "m s0" => ((fail_if_success (with_reducible show WStep _ _ _ _ _ _)); (fail_if_success (with_reducible show wpAny _ _ (eval (Expr.ListComp _ _ _ _) _) _ _ _)); (fail_if_success (with_reducible show wpAny _ _ (exec (Stmt.For _ _ _ _ _) _) _ _ _)); (fail_if_success (with_reducible show wpAny _ _ (exec (Stmt.Assign _ (Expr.ListComp _ _ _ _) _ _) _) _ _ _)))
  k_with "m get" => ((repeat (first | assumption | exact get_eq | refine get_ne (by decide) ?_ | rfl)))
  k_with "eval Name" => (((with_reducible show wpAny _ _ (eval (Expr.Name _ _) (envOf _ _ _ _ _)) _ _ _); k_dflt (refine' ld ?z9k1 ?z9k2 ?_; (case z9k1 => k_asm); (case z9k2 => walk_at "m get"); k_whole)))
  k_with "m to while" => ((repeat ((fail_if_success (with_reducible refine wpAny_While ?_)); first | walk1 | (dsimp only; walk1))))
  k_with "subscriptTail" => (((with_reducible show wpAny _ _ (subscriptTail _ _ (Value.ref _) (Value.int _ _)) _ _ _); (refine' item_h ?z9k1 ?z9k2 ?z9k3 ?z9k4 ?_; (case z9k1 => assumption); (case z9k2 => omega); (case z9k3 => omega); (case z9k4 => assumption); k_whole)))
  k_with "setItem ref int" => ((((with_reducible show wpAny _ _ (setItem (Value.ref _) (Value.int _ _) _) _ _ _); (refine' setItem_h ?z9k1 ?z9k2 ?z9k3 ?z9k4 ?z9k5 ?z9k6 ?_; (case z9k1 => assumption); (case z9k2 => assumption); (case z9k3 => assumption); (case z9k4 => omega); (case z9k5 => assumption); (case z9k6 => omega); k_whole); intro h' F' N'); revert h' F' N'; intro _ _ _))
  k_with "call builtin:len" => (((with_reducible show wpAny _ _ (call (Value.builtin _) [Value.ref _]) _ _ _); (refine' len_h ?z9k1 ?z9k2 ?_; (case z9k1 => assumption); (case z9k2 => first | assumption | (simp only [List.length_append, List.length_cons, List.length_nil]; omega)); k_whole)))
  k_with "call builtin:list.append" => ((((with_reducible show wpAny _ _ (call (Value.builtin _) [Value.ref _, _]) _ _ _); (refine' append_h ?z9k1 ?z9k2 ?z9k3 ?z9k4 ?_; (case z9k1 => assumption); (case z9k2 => assumption); (case z9k3 => assumption); (case z9k4 => omega); k_whole); intro h' F' N'); revert h' F' N'; intro _ _ _))
  k_with "call builtin:list.pop" => ((((with_reducible show wpAny _ _ (call (Value.builtin _) [Value.ref _]) _ _ _); (refine' pop_h ?z9k1 ?z9k2 ?z9k3 ?z9k4 ?_; (case z9k1 => assumption); (case z9k2 => assumption); (case z9k3 => assumption); (case z9k4 => omega); k_whole); intro h' F' N'); revert h' F' N'; intro _ _ _))
  k_with "eval Name" => (((with_reducible show wpAny _ _ (eval (Expr.Name _ _) (compEnvC _ _ _ _)) _ _ _); k_dflt (refine' PySem.W.LCgL.ld_own ?z9k1 ?z9k2 ?z9k3 ?z9k4 ?_; (case z9k1 => k_asm); (case z9k2 => exact List.Mem.head _); (case z9k3 => assumption); (case z9k4 => walk_at "m get"); k_whole)))
  k_with "m mem" => (first | assumption | exact List.Mem.head _ | exact List.mem_append.mpr (Or.inl (by assumption)) | exact List.mem_append.mpr (Or.inr (by assumption)) | (refine List.Mem.tail _ ?_; walk_at "m mem"))
  k_with "subscriptTail" => (((with_reducible show wpAny _ _ (subscriptTail _ _ (Value.ref _) (Value.int _ _)) _ _ _); (refine' item_m ?z9k1 ?z9k2 ?z9k3 ?z9k4 ?z9k5 ?_; (case z9k1 => assumption); (case z9k5 => assumption); (case z9k2 => walk_at "m mem"); (case z9k3 => omega); (case z9k4 => omega); k_whole)))
  k_with "truthy ref" => ((k_dflt (refine' truthy_D ?z9N ?z9d ?z9m ?z9s ?z9f ?_; (case z9N => assumption); (case z9d => assumption); (case z9m => walk_at "m mem"); (case z9s => assumption); (case z9f => first | assumption | decide | omega); k_whole)))
  k_with "m enterC2" => ((   (case kA => exact rfl); (case kF => assumption); (case kK => assumption); (case k1 => assumption); (case k2 => assumption); (case k3 => assumption); (case k4 => assumption); (case k5 => assumption);   (case k6 => k_is); (case k7 => k_is); (case k8 => k_room); (case k9 => first | exact BindsTo.of_eq rfl | exact binds_K (by k_in) rfl (by k_is) rfl rfl rfl); (case kB => exact rfl); (case kD => decide +kernel); (case c2 => exact rfl); (case c3 => exact rfl); (case c4 => exact rfl)))
  k_with "truthy ref" => ((k_dflt (refine' truthy_L ?z9N ?z9m ?z9f ?_; (case z9N => assumption); (case z9m => walk_at "m mem"); (case z9f => first | assumption | omega); k_whole)))
  k_with "call type:set" => ((((with_reducible show wpAny _ _ (call (Value.type _) [Value.ref _]) _ _ _); k_dflt (refine' set_new_strsN ?z9F ?z9N ?z9m ?z9v ?z9n ?z9hh ?z9f ?_; (case z9F => assumption); (case z9N => assumption); (case z9m => walk_at "m mem"); (case z9v => assumption); (case z9n => assumption); (case z9hh => exact rfl); (case z9f => first | assumption | omega); k_whole); intro h' tk' D' o' F' N' hS' l1'; (try k_lt l1')); revert h' tk' D' o' F' N' hS' l1'; intro _ _ _ _ _ _ _ _))
  k_with "call type:set nil nil" => (((k_dflt (refine' set_new_0 ?z9F ?z9N ?_; (case z9F => assumption); (case z9N => assumption); k_whole); intro h' D' o' F' N' hS' l1'; (try k_lt l1')); revert h' D' o' F' N' hS' l1'; intro _ _ _ _ _ _ _))
  k_with "getItem ref str" => (((k_dflt (refine' getItem_D ?z9N ?z9d ?z9f ?z9m ?z9s ?z9l ?_; (case z9N => assumption); (case z9d => assumption); (case z9f => assumption); (case z9m => walk_at "m mem"); (case z9s => assumption); (case z9l => assumption); k_whole); intro v' hv'); revert v' hv'; intro _ _))
  k_with "compareOp In str ref" => ((k_dflt (refine' in_set ?z9N ?z9m ?z9d ?_; (case z9N => assumption); (case z9d => assumption); (case z9m => walk_at "m mem"); k_whole)))
  k_with "setItem ref str" => (((k_dflt (refine' setItem_K PyProof.V.same_str (strKind_is _ _ _ _) ?z9v ?z9F ?z9N ?z9U ?z9d ?z9f ?_ ?z9z; (case z9F => assumption); (case z9N => assumption); (case z9U => k_updF); (case z9d => assumption); (case z9f => assumption); (case z9z => (rw [sizeLine_eq]; omega)); (case z9v => k_flat)); intro h' o' F' N' hd' hf'; (try dsimp only at N')); revert h' o' F' N' hd' hf'; intro _ _ _ _ _ _))
  k_with "binaryOp Add str str" => (((refine PyProof.Rows.add_str (hsz := ?z9hsz) ?_); (case z9hsz => (have e1 : (Str.ofString ".").length = 1 := by decide); (have e2 : (Str.ofString "/").length = 1 := by decide); (have e3 : (Str.ofString "/.").length = 2 := by decide); rw [sizeLine_eq]; omega); intro _ _))
  k_with "eval Name" => (((with_reducible show wpAny _ _ (eval (Expr.Name _ _) (compEnvC _ _ _ _)) _ _ _); k_dflt (refine' PySem.W.LCgL.ld_own ?z9k1 ?z9k2 ?z9k3 ?z9k4 ?_; (case z9k1 => k_asm); (case z9k2 => walk_at "m mem"); (case z9k3 => assumption); (case z9k4 => walk_at "m get"); k_whole)))
  k_with "m cmp" => ((repeat' (walk_at "m s0"; (fail_if_success (with_reducible show wpAny _ _ (call (Value.ref _) _ _) _ _ _)); (fail_if_success (with_reducible show wpAny _ _ (compareOp _ (Value.ref _) (Value.ref _)) _ _ _)); first | walk1 | (dsimp only; walk1) | (with_reducible refine ite_neg Bool.false_ne_true ?_) | (with_reducible refine ite_pos rfl ?_))))
  k_with "eval Name" => (((with_reducible show wpAny _ _ (eval (Expr.Name _ _) (envOfC _ _ _ _ _)) _ _ _); k_dflt (refine' nameX_L ?z9F ?z9v ?_ ?z9a ?z9b; (case z9F => k_asm); (case z9a => rfl); (case z9b => rfl); (case z9v => walk_at "m get"); k_whole)))
  k_with "callWith" => (first | with_reducible refine PyProof.Rows.callWith_method0 ?_ | with_reducible refine PyProof.Rows.callWith_builtin1 ?_ | with_reducible refine PyProof.Rows.callWith_method1 ?_)
  trivial
/-- what holds between the turns -/
noncomputable def SJ (s : Shared) (g : Heap) (L H Tl pa ca wa : Addr) (oPs : Obj) (led : Led) (ps wi : List Int) (S : List Key) (i : Nat) (s' : Shared) : Prop :=
  ∃ h tk dr m hv tv n nt oC oPr vC vPr rest ks, s' = { s with heap := h, toks := tk, drawn := dr } ∧ Fr g L h m ∧ m (Str.ofString "heap") = some (.ref H) ∧ m (Str.ofString "told") = some (.ref Tl) ∧ m (Str.ofString "calls") = some (.ref ca) ∧ m (Str.ofString "wishes") = some (.ref wa) ∧
    News g L h (led5 H Tl L hv tv n nt oC oPr oPs rest) ∧ Ap H Tl L rest ∧ oC.data = .cell vC ∧ oPr.data = .cell vPr ∧ (∀ p ∈ led, p ∈ rest) ∧ KeysIn rest hv ks ∧ Inv ps S i ks ∧ ItemsIn rest tv (S.take i) ∧ (∀ k ∈ S.take i, okK wi k = false) ∧ hv.length ≤ 1 + 4 * i ∧ i ≤ 16
theorem search_K {pa ca wa : Addr} {pv cvs wv : List Value} {qp qc qw : Nat} {led : Led} {ps wi : List Int} {S : List Key} {w : World} {A A₀ : Around} {s : Shared} {h₀ : Heap} {L : Addr} {m mg mb : Str → Option Value} {mean : ExcName → Option Value} {p : Program} {loose : List Str} {env : Env} {R : Result → Shared → Prop}
 (B : Below A₀ h₀ [] h₀) (F : Fr h₀ L s.heap m) (X₀ : (Mine.hd.heap_1 w.params).In h₀) (N : News h₀ L s.heap led) (T : Top p loose mean mg mb h₀) (hA : A.frames = some [env]) (hf : env.frame = some L) (hke : env.scope.kind = .function)
 (hpa : (pa, listOf pv.toArray qp) ∈ led) (hca : (ca, listOf cvs.toArray qc) ∈ led) (hwa : (wa, listOf wv.toArray qw) ∈ led) (hcs : CallsOk cvs led callsL) (hp : IntsAre pv ps) (hpl : ps.length = 4) (hpos : PosP ps) (hw : IntsAre wv wi) (hwl : wi.length = 6) (hS : SortedP ps S)
 (hd : A.depth < 590) (hu : A.units < 190) (hh : A.handled = none)
 (h : ∀ h' tk dr Tl tv nt new, Fr h₀ L h' m → News h₀ L h' ((Tl, listOf tv.toArray nt) :: (new ++ led)) → ToldIn (new ++ led) tv (resP (okK wi) S) → R (.ok (.ret (.ref Tl))) { s with heap := h', toks := tk, drawn := dr }) :
 codeAny (model PySem.Challenge.rw_nq0047_02.row.prog w) A (.call (.ref 143) ⟨[.ref pa, .ref ca, .ref wa], []⟩) R s := by
  obtain ⟨hdl', dep', frs', gs', un'⟩ := A
  replace hA : frs' = some [env] := hA
  replace hh : hdl' = none := hh
  subst hA hh
  replace hd : dep' < _ := hd
  replace hu : un' < _ := hu
  have XB := X₀
  have TB := T
  revert X₀
  k_fill
  intro X₀
  refine' code_defCR (binds := [(Str.ofString "prices", .ref pa), (Str.ofString "calls", .ref ca), (Str.ofString "wishes", .ref wa)]) ?k1 ?k2 ?k3 ?k4 ?k5 ?kA ?kF ?kK ?k6 ?k7 ?k8 ?k9 ?kB ?kD ?_ ?c2 ?c3 ?c4
  walk_at "m enterC2"
  intro g' L' h' tk' cells' FG' F' N' Y' B' X' T' lK hK
  have hY := CellsAre.three Y'
  obtain ⟨oC, oPr, oPs, hE, hC, hPr, hPs⟩ := hY
  subst hE
  clear Y' F N B X₀ T
  refine wpAny_noRaise ?_
  replace N' : News g' L' h' ((L' + 1 + 1 + 1, oC) :: (L' + 1 + 1, oPr) :: (L' + 1, oPs) :: led) := N'
  walk_at "m to while"
  rename_i E0 a1 l1 P0 a2 l2 H a3 l3 a4 a5 Tl a6 l4 h6 F6 N6
  have hPs' : oPs.data = .cell (some (.ref pa)) := hPs
  have hgL : ∀ p : Addr × Obj, g'.get? p.1 = none → p.1 ≠ L := fun p hn e => by
    obtain ⟨o, ho, _⟩ := PyProof.Rows.LCg.ns_obj FG'.ns
    rw [← e, hn] at ho; cases ho
  have ap5 : Ap5 H Tl L' := ⟨Nat.ne_of_lt l4.1, Nat.ne_of_gt l3.2.2.2.2.1, Nat.ne_of_gt l3.2.2.2.1, Nat.ne_of_gt l3.2.2.1, Nat.ne_of_gt l4.2.2.2.2.2.1, Nat.ne_of_gt l4.2.2.2.2.1, Nat.ne_of_gt l4.2.2.2.1⟩
  have fin : ∀ (h9 : Heap) (tk : Nat) (dr : Drawn) (m9 : Str → Option Value) (hv tv : List Value) (n nt : Nat) (oC oPr : Obj) (rest : Led) (i : Nat) (k0 : Key), Fr g' L' h9 m9 → News g' L' h9 (led5 H Tl L' hv tv n nt oC oPr oPs rest) → (∀ p ∈ led, p ∈ rest) → ItemsIn rest tv (S.take (i + 1)) → S[i]? = some k0 → (∀ k ∈ S.take i, okK wi k = false) → okK wi k0 = true →
      R (.ok (.ret (.ref Tl))) { s with heap := h9, toks := tk, drawn := dr } := by
    intro h9 tk dr m9 hv tv n nt oC oPr rest i k0 F9 N9 hsub hits hSi hno hok
    obtain ⟨hi, e0⟩ := List.getElem?_eq_some_iff.mp hSi
    have hres : resP (okK wi) S = (S.take (i + 1), true) := by
      have e1 : S = S.take i ++ k0 :: S.drop (i + 1) := by
        rw [← e0, ← List.drop_eq_getElem_cons hi, List.take_append_drop]
      rw [show resP (okK wi) S = resP (okK wi) (S.take i ++ k0 :: S.drop (i + 1)) by rw [← e1], resP_go _ _ _ hno, resP, if_pos hok, List.take_add_one, hSi]
      rfl
    refine h h9 tk dr Tl tv nt rest (back_fr FG' F9) (fun p hp => back_news FG' N9 p ?_) ?_
    · rcases List.mem_cons.mp hp with rfl | hp
      · exact .tail _ (.head _)
      · refine .tail _ (.tail _ (.tail _ (.tail _ (.tail _ ?_))))
        rcases List.mem_append.mp hp with hp | hp
        · exact hp
        · exact hsub p hp
    · rw [hres]
      exact ⟨tv, hits.mono fun p hp => List.mem_append.mpr (.inl hp), .inl ⟨rfl, rfl⟩⟩
  refine whl_ind (SJ s g' L' H Tl pa ca wa oPs led ps wi S) (fun i => 17 - i) PassesOwn.never ?_ 0 ?_
  · clear N6 F6 l1 l2 l3 l4 hC hPr hPs
    rintro i s' ⟨h1, tk1, dr1, m1, hv, tv, n, nt, oC1, oPr1, vC, vPr, rest, ks, rfl, F1, e1, e2, e3, e4, N1, ap1, dC, dPr, hsub, hk, hI, hit, hno, hvl, hi⟩
    have hcs' : CallsOk cvs rest callsL := ⟨hcs.1, fun j hj => by obtain ⟨a, pv, u, x1, x2, x3⟩ := hcs.2 j hj; exact ⟨a, pv, u, x1, hsub _ x2, x3⟩⟩
    walk_at "m cmp"
    rename_i Dn h7 F7 N7 l7
    refine ne_nil N7 (.tail _ (.head _)) (.head _) ?_ ?_
    · show un' + 3 < 9900; omega
    replace N7 := news_tail N7
    clear l7
    cases hks : ks with
    | nil =>
      have hv0 : hv = [] := List.eq_nil_of_length_eq_zero (by rw [hk.1, hks]; rfl)
      subst hv0
      refine wpAny_truthy_bool ?_
      with_reducible refine ite_neg (by decide) ?_
      have hlen := inv_empty hpos hS (by rw [← hks]; exact hI)
      have hi16 : i = 16 := by rw [hS.len] at hlen; omega
      subst hi16
      have htk : S.take 16 = S := List.take_of_length_le (by rw [hS.len]; exact Nat.le_refl _)
      rw [htk] at hit hno
      have htl : tv.length < 800 := by rw [hit.1, hS.len]; decide
      refine tail_K (L₀ := L) (m₀ := m) B' X' T' (by omega) (by omega) F7 N7 ap1 ap5 XB TB FG' ⟨fun p hp => hgL p (N7 p (.tail _ (.tail _ (.tail _ (.tail _ (.tail _ hp)))))).2.2, hgL (Tl, listOf tv.toArray nt) (N7 _ (.tail _ (.head _))).2.2⟩ e1 e2 htl ?_
      intro h9 tk9 dr9 u9 F9 q9 keep9
      have hres : resP (okK wi) S = (S, false) := by
        have := resP_go (okK wi) S [] hno
        rw [List.append_nil] at this
        rw [this]; show (S ++ [], false) = _; rw [List.append_nil]
      have nw : ∀ p ∈ rest, p.1 ≠ L ∧ h₀.get? p.1 = none := fun p hp => (back_news FG' N7 p (.tail _ (.tail _ (.tail _ (.tail _ (.tail _ hp)))))).2
      refine h h9 tk9 dr9 Tl (tv ++ [Value.str (Str.ofString "nothing left") u9]) (nt + 1) rest F9 ?_ ?_
      · intro p hp
        rcases List.mem_cons.mp hp with rfl | hp
        · exact ⟨q9, (back_news FG' N7 _ (.tail _ (.head _))).2⟩
        · have hr : p ∈ rest := (List.mem_append.mp hp).elim id (hsub p)
          exact ⟨keep9 p hr, nw p hr⟩
      · rw [hres]
        exact ⟨tv, hit.mono fun p hp => List.mem_append.mpr (.inl hp), .inr ⟨rfl, u9, rfl⟩⟩
    | cons k0 kr =>
      obtain ⟨v, vr, rfl⟩ : ∃ v vr, hv = v :: vr := by
        cases hv with
        | nil => have := hk.1; rw [hks] at this; cases this
        | cons v vr => exact ⟨v, vr, rfl⟩
      have hk0 : ks[0]? = some k0 := by rw [hks]; rfl
      have hSi := inv_top hpos hS hI hk0
      refine wpAny_truthy_bool ?_
      with_reducible refine ite_pos rfl ?_
      refine search_turn B' X' T' (by omega) (by omega) F7 N7 ap1 ap5 dC dPr hPs' e1 e2 e3 e4 (hsub _ hpa) (hsub _ hca) (hsub _ hwa) hcs' hp hpl hpos hw hwl hS hk hI hit hvl hi hk0 ?_ ?_
      · intro h8 tk8 dr8 m8 hv8 tv8 n8 nt8 oC8 oPr8 rest8 F8 N8 sub8 hits8 hok8
        exact fin _ _ _ _ _ _ _ _ _ _ _ i k0 F8 N8 (fun p hp => sub8 p (hsub p hp)) hits8 hSi hno hok8
      · intro h8 tk8 dr8 m8 hv8 tv8 n8 nt8 oC8 oPr8 vC8 vPr8 rest8 ks8 F8 x1 x2 x3 x4 N8 ap8 d1 d2 sub8 hk8 hI8 hits8 hok8 hl8
        have hi16 : i < 16 := by have := (List.getElem?_eq_some_iff.mp hSi).1; rw [hS.len] at this; exact this
        refine ⟨i + 1, by dsimp only; omega, h8, tk8, dr8, m8, hv8, tv8, n8, nt8, oC8, oPr8, vC8, vPr8, rest8, ks8, rfl, F8, x1, x2, x3, x4, N8, ap8, d1, d2, fun p hp => sub8 p (hsub p hp), hk8, hI8, hits8, ?_, hl8, by omega⟩
        intro k hkm
        rw [List.take_add_one, hSi] at hkm
        rcases List.mem_append.mp hkm with hkm | hkm
        · exact hno k hkm
        · have : k = k0 := by simpa using hkm
          rw [this]; exact hok8
  · have apl : ∀ p ∈ led, p.1 < L' := lK
    have off : ∀ k : Nat, ∀ p ∈ led, p.1 ≠ L' + k := fun k p hp => Nat.ne_of_lt (Nat.lt_of_lt_of_le (apl p hp) (Nat.le_add_right _ _))
    have apL : Ap H Tl L' led := ⟨ne_of_allLt l3.2.2.2.2.2, ne_of_allLt l4.2.2.2.2.2.2, off 1, off 2, off 3⟩
    have apE : Ap H Tl L' ((E0, tupOf []) :: led) := apL.cons (Nat.ne_of_gt l3.2.1) (Nat.ne_of_gt l4.2.2.1) (Nat.ne_of_lt l1.2.2.1) (Nat.ne_of_lt l1.2.1) (Nat.ne_of_lt l1.1)
    have apP : Ap H Tl L' ((P0, tupOf [.int 0 tk', .ref E0]) :: (E0, tupOf []) :: led) := apE.cons (Nat.ne_of_gt l3.1) (Nat.ne_of_gt l4.2.1) (Nat.ne_of_lt l2.2.2.2.1) (Nat.ne_of_lt l2.2.2.1) (Nat.ne_of_lt l2.2.1)
    refine ⟨h6, _, _, _, [.ref P0], [], 0, 0, oC, oPr, _, _, (P0, tupOf [.int 0 tk', .ref E0]) :: (E0, tupOf []) :: led, [(0, [])], rfl, F6, by walk_at "m get", by walk_at "m get", ?_, ?_, news_sub N6 ?_, apP, hC, hPr, fun p hp => .tail _ (.tail _ hp), ⟨rfl, fun i hi => ?_⟩, inv_start hS, ItemsIn.nil, fun k hk => by simp at hk, by simp, by omega⟩
    · rfl
    · rfl
    · intro p hp
      simp only [led5, List.mem_cons] at hp ⊢
      grind
    · have : i = 0 := by simp at hi; exact hi
      subst this
      exact ⟨.ref P0, rfl, P0, E0, tk', [], rfl, .head _, .tail _ (.head _), .nil⟩
end Mine
end
section
open PySem PySem.W PyProof.Rows
set_option Elab.async false
set_option maxRecDepth 100000
namespace Mine
theorem set_back_MSortT : True := by w_top off; trivial
section
variable {N : Nat} {ans : Nat → Nat → Bool} {cmp : Nat → Nat → (Bool → Shared → Prop) → Shared → Prop} {s : Shared}
structure AnsOk (N : Nat) (ans : Nat → Nat → Bool) : Prop where
  tr : ∀ i j k, i < N → j < N → k < N → ans i j = true → ans j k = true → ans i k = true
  tot : ∀ i j, i < N → j < N → i ≠ j → ans i j = false → ans j i = true
  asy : ∀ i j, i < N → j < N → ans i j = true → ans j i = false
noncomputable def CmpIs (N : Nat) (ans : Nat → Nat → Bool) (cmp : Nat → Nat → (Bool → Shared → Prop) → Shared → Prop) (s : Shared) : Prop := ∀ i j C, i < N → j < N → C (ans i j) s → cmp i j C s
noncomputable def PermA (N : Nat) (p : Array Nat) : Prop := p.toList.Perm (List.range N)
theorem PermA.size {p : Array Nat} (h : PermA N p) : p.size = N := by have := h.length_eq; simpa using this
theorem PermA.bd {p : Array Nat} (h : PermA N p) {i : Nat} (hi : i < N) : p.getD i 0 < N := by
  have hs := h.size
  have e : p.getD i 0 = p.toList[i]'(by simpa [hs] using hi) := by simp [Array.getD, hs, hi]
  rw [e]
  have := h.mem_iff.mp (List.getElem_mem (by simpa [hs] using hi : i < p.toList.length))
  simpa using this
theorem PermA.inj {p : Array Nat} (h : PermA N p) {i j : Nat} (hi : i < N) (hj : j < N) (e : p.getD i 0 = p.getD j 0) : i = j := by
  have hs := h.size
  have nd : p.toList.Nodup := h.nodup_iff.mpr List.nodup_range
  have hi' : i < p.toList.length := by simpa [hs] using hi
  have hj' : j < p.toList.length := by simpa [hs] using hj
  have e1 : p.toList[i] = p.toList[j] := by
    have a : p.getD i 0 = p.toList[i] := by simp [Array.getD, hs, hi]
    have b : p.getD j 0 = p.toList[j] := by simp [Array.getD, hs, hj]
    rw [← a, ← b, e]
  exact (List.getElem_inj nd).mp e1
noncomputable def Asc (ans : Nat → Nat → Bool) (p : Array Nat) (m : Nat) : Prop := ∀ i j, i < j → j < m → ans (p.getD i 0) (p.getD j 0) = true
noncomputable def Dsc (ans : Nat → Nat → Bool) (p : Array Nat) (m : Nat) : Prop := ∀ i j, i < j → j < m → ans (p.getD j 0) (p.getD i 0) = true
theorem Asc.succ (O : AnsOk N ans) {p : Array Nat} (h : PermA N p) {n : Nat} (hn : n < N) (h1 : 1 ≤ n) (ha : Asc ans p n) (hl : ans (p.getD (n - 1) 0) (p.getD n 0) = true) : Asc ans p (n + 1) := by
  intro i j hij hj
  by_cases e : j = n
  · subst e
    by_cases e2 : i = j - 1
    · subst e2; exact hl
    · exact O.tr _ _ _ (h.bd (by omega)) (h.bd (by omega)) (h.bd hn) (ha i (j - 1) (by omega) (by omega)) hl
  · exact ha i j hij (by omega)
theorem Dsc.succ (O : AnsOk N ans) {p : Array Nat} (h : PermA N p) {n : Nat} (hn : n < N) (h1 : 1 ≤ n) (ha : Dsc ans p n) (hl : ans (p.getD n 0) (p.getD (n - 1) 0) = true) : Dsc ans p (n + 1) := by
  intro i j hij hj
  by_cases e : j = n
  · subst e
    by_cases e2 : i = j - 1
    · subst e2; exact hl
    · exact O.tr _ _ _ (h.bd hn) (h.bd (by omega)) (h.bd (by omega)) hl (ha i (j - 1) (by omega) (by omega))
  · exact ha i j hij (by omega)
theorem asc_ok (O : AnsOk N ans) (H : CmpIs N ans cmp s) {p : Array Nat} (h : PermA N p) {Q : Nat → Shared → Prop} : ∀ (f n : Nat), 1 ≤ n → n + f ≤ N → Asc ans p n →
    (∀ m, n ≤ m → m ≤ n + f → Asc ans p m → (m = n + f ∨ ans (p.getD m 0) (p.getD (m - 1) 0) = true) → Q m s) → (kas_asc p f n).kasWp cmp Q s
  | 0, n, _, _, ha, k => k n (Nat.le_refl _) (Nat.le_refl _) ha (.inl rfl)
  | f + 1, n, h1, hb, ha, k => by
    refine H _ _ _ (h.bd (by omega)) (h.bd (by omega)) ?_
    cases c : ans (p.getD n 0) (p.getD (n - 1) 0) with
    | true => exact k n (Nat.le_refl _) (by omega) ha (.inr c)
    | false =>
      have hl := O.tot _ _ (h.bd (by omega)) (h.bd (by omega)) (fun e => by have := h.inj (by omega) (by omega) e; omega) c
      exact asc_ok O H h f (n + 1) (by omega) (by omega) (ha.succ O h (by omega) h1 hl) fun m m1 m2 m3 m4 => k m (by omega) (by omega) m3 (m4.imp (by omega) id)
theorem desc_ok (O : AnsOk N ans) (H : CmpIs N ans cmp s) {p : Array Nat} (h : PermA N p) {Q : Array Nat × Nat × Nat → Shared → Prop} : ∀ (f n : Nat), 1 ≤ n → n + f ≤ N → Dsc ans p n →
    (∀ m, n ≤ m → m ≤ n + f → Dsc ans p m → Q (p, m, 0) s) → (kas_desc f p n 0).kasWp cmp Q s
  | 0, n, _, _, ha, k => k n (Nat.le_refl _) (Nat.le_refl _) ha
  | f + 1, n, h1, hb, ha, k => by
    refine H _ _ _ (h.bd (by omega)) (h.bd (by omega)) ?_
    cases c : ans (p.getD n 0) (p.getD (n - 1) 0) with
    | true => exact desc_ok O H h f (n + 1) (by omega) (by omega) (ha.succ O h (by omega) h1 c) fun m m1 m2 m3 => k m (by omega) (by omega) m3
    | false =>
      have hl := O.tot _ _ (h.bd (by omega)) (h.bd (by omega)) (fun e => by have := h.inj (by omega) (by omega) e; omega) c
      refine H _ _ _ (h.bd (by omega)) (h.bd (by omega)) ?_
      rw [hl]
      exact k n (Nat.le_refl _) (by omega) ha
theorem getD_of {p q : Array Nat} {i j : Nat} (h : p[i]? = q[j]?) : p.getD i 0 = q.getD j 0 := by
  rw [Array.getD_eq_getD_getElem?, Array.getD_eq_getD_getElem?, h]
theorem rev_ok {p : Array Nat} (h : PermA N p) {m : Nat} (hm : m ≤ N) (hd : Dsc ans p m) : PermA N (kas_rev p 0 m) ∧ Asc ans (kas_rev p 0 m) m := by
  refine ⟨(Array.perm_iff_toList_perm.mp (mirror_perm p 0 m ((m - 0) / 2))).trans h, ?_⟩
  have g : ∀ k, k < m → (kas_rev p 0 m).getD k 0 = p.getD (m - 1 - k) 0 := by
    intro k hk
    refine getD_of ?_
    unfold kas_rev
    rw [getElem?_mirror_all (by rw [h.size]; exact hm), if_pos (by omega)]
    congr 1; omega
  intro i j hij hj
  rw [g i (by omega), g j hj]
  exact hd _ _ (by omega) (by omega)
theorem place_ok (O : AnsOk N ans) (H : CmpIs N ans cmp s) {p : Array Nat} (h : PermA N p) {k : Nat} (hk : k < N) (ha : Asc ans p k) {Q : Nat → Shared → Prop} : ∀ (f l r : Nat), r - l ≤ f → l ≤ r → r ≤ k →
    (∀ i, i < l → ans (p.getD i 0) (p.getD k 0) = true) → (∀ i, r ≤ i → i < k → ans (p.getD k 0) (p.getD i 0) = true) →
    (∀ m, m ≤ k → (∀ i, i < m → ans (p.getD i 0) (p.getD k 0) = true) → (∀ i, m ≤ i → i < k → ans (p.getD k 0) (p.getD i 0) = true) → Q m s) → (kas_place p k f l r).kasWp cmp Q s
  | 0, l, r, h0, h1, h2, a, b, q => q l (by omega) a fun i hi hik => b i (by omega) hik
  | f + 1, l, r, h0, h1, h2, a, b, q => by
    unfold kas_place
    by_cases e : l ≥ r
    · rw [if_pos e]; exact q l (by omega) a fun i hi hik => b i (by omega) hik
    · rw [if_neg e]
      refine H _ _ _ (h.bd hk) (h.bd (by omega)) ?_
      cases c : ans (p.getD k 0) (p.getD ((l + r) / 2) 0) with
      | true =>
        refine place_ok O H h hk ha f l ((l + r) / 2) (by omega) (by omega) (by omega) a (fun i hi hik => ?_) q
        by_cases e2 : i = (l + r) / 2
        · subst e2; exact c
        · exact O.tr _ _ _ (h.bd hk) (h.bd (by omega)) (h.bd (by omega)) c (ha _ _ (by omega) hik)
      | false =>
        have hl := O.tot _ _ (h.bd hk) (h.bd (by omega)) (fun e => by have := h.inj hk (by omega) e; omega) c
        refine place_ok O H h hk ha f ((l + r) / 2 + 1) r (by omega) (by omega) h2 (fun i hi => ?_) b q
        by_cases e2 : i = (l + r) / 2
        · subst e2; exact hl
        · exact O.tr _ _ _ (h.bd (by omega)) (h.bd (by omega)) (h.bd hk) (ha _ _ (by omega) (by omega)) hl
theorem bubble_ok (O : AnsOk N ans) {p : Array Nat} (h : PermA N p) {k m : Nat} (hk : k < N) (hm : m ≤ k) (ha : Asc ans p k) (a : ∀ i, i < m → ans (p.getD i 0) (p.getD k 0) = true) (b : ∀ i, m ≤ i → i < k → ans (p.getD k 0) (p.getD i 0) = true) :
    PermA N (bubble p k (k - m)) ∧ Asc ans (bubble p k (k - m)) (k + 1) := by
  refine ⟨(Array.perm_iff_toList_perm.mp (bubble_perm p k (k - m))).trans h, ?_⟩
  have g := fun x => getElem?_bubble (xs := p) (src := k) (by rw [h.size]; exact hk) (k - m) (by omega) x
  have g1 : (bubble p k (k - m)).getD m 0 = p.getD k 0 := getD_of (by rw [g, if_pos (by omega)])
  have g2 : ∀ x, m < x → x ≤ k → (bubble p k (k - m)).getD x 0 = p.getD (x - 1) 0 := fun x h1 h2 => getD_of (by rw [g, if_neg (by omega), if_pos (by omega)])
  have g3 : ∀ x, x < m → (bubble p k (k - m)).getD x 0 = p.getD x 0 := fun x h1 => getD_of (by rw [g, if_neg (by omega), if_neg (by omega)])
  intro i j hij hj
  rcases Nat.lt_trichotomy i m with hi | hi | hi
  · rw [g3 i hi]
    rcases Nat.lt_trichotomy j m with hjm | hjm | hjm
    · rw [g3 j hjm]; exact ha i j hij (by omega)
    · subst hjm; rw [g1]; exact a i hi
    · rw [g2 j hjm (by omega)]; exact ha i (j - 1) (by omega) (by omega)
  · subst hi
    rw [g1, g2 j (by omega) (by omega)]
    exact b (j - 1) (by omega) (by omega)
  · rw [g2 i hi (by omega), g2 j (by omega) (by omega)]
    exact ha (i - 1) (j - 1) (by omega) (by omega)
theorem bin_ok (O : AnsOk N ans) (H : CmpIs N ans cmp s) {Q : Array Nat → Shared → Prop} (q : ∀ p, PermA N p → Asc ans p N → Q p s) : ∀ (f : Nat) (p : Array Nat) (k : Nat), PermA N p → k + f = N → Asc ans p k → (kas_bin f p k).kasWp cmp Q s
  | 0, p, k, h, hk, ha => q p h (by rw [← hk]; exact ha)
  | f + 1, p, k, h, hk, ha => by
    unfold kas_bin
    rw [KasT.kasWp_bind]
    refine place_ok O H h (by omega) ha k 0 k (by omega) (by omega) (Nat.le_refl _) (fun i hi => absurd hi (by omega)) (fun i h1 h2 => absurd h1 (by omega)) ?_
    intro m hm a b
    have bo := bubble_ok O h (by omega) hm ha a b
    exact bin_ok O H q f _ (k + 1) bo.1 (by omega) bo.2
theorem permA_range : PermA N (List.toArray (List.range N)) := List.Perm.refl _
theorem count_ok (O : AnsOk N ans) (H : CmpIs N ans cmp s) (hN : 1 ≤ N) {p : Array Nat} (h : PermA N p) {Q : Nat × Array Nat → Shared → Prop} (q : ∀ m p', 1 ≤ m → m ≤ N → PermA N p' → Asc ans p' m → Q (m, p') s) : (kas_count N p).kasWp cmp Q s := by
  unfold kas_count
  rw [KasT.kasWp_bind]
  refine asc_ok O H h (N - 1) 1 (by omega) (by omega) (fun i j h1 h2 => absurd h1 (by omega)) ?_
  intro m m1 m2 ma ms
  by_cases e : (m == N) = true
  · rw [if_pos e]; exact q m p m1 (by omega) h ma
  · rw [if_neg e]
    have e' : m ≠ N := by simpa using e
    have hlt : ans (p.getD m 0) (p.getD (m - 1) 0) = true := ms.resolve_left (by omega)
    by_cases hm : m > 1
    · rw [if_pos hm]
      refine H _ _ _ (h.bd (by omega)) (h.bd (by omega)) ?_
      rw [ma 0 (m - 1) (by omega) (by omega)]
      exact q m p m1 (by omega) h ma
    · rw [if_neg hm]
      obtain rfl : m = 1 := by omega
      unfold kas_descPart
      rw [KasT.kasWp_bind]
      have d2 : Dsc ans p 2 := by
        intro i j h1 h2
        obtain rfl : i = 0 := by omega
        obtain rfl : j = 1 := by omega
        exact hlt
      refine desc_ok O H h (N - (1 + 1)) (1 + 1) (by omega) (by omega) d2 ?_
      intro k k1 k2 kd
      dsimp only
      rw [if_neg (by omega)]
      unfold kas_tail3
      rw [KasT.kasWp_bind]
      have ro := rev_ok h (by omega : k ≤ N) kd
      refine asc_ok O H ro.1 (N - k) k (by omega) (by omega) ro.2 ?_
      intro x x1 x2 xa _
      exact q x _ (by omega) (by omega) ro.1 xa
theorem sort_ok (O : AnsOk N ans) (H : CmpIs N ans cmp s) (hN : 1 ≤ N) {Q : Array Nat → Shared → Prop} (q : ∀ p, PermA N p → Asc ans p N → Q p s) : (kas_sort N).kasWp cmp Q s := by
  unfold kas_sort
  rw [KasT.kasWp_bind]
  refine count_ok O H hN permA_range ?_
  intro m p' m1 m2 hp' ha
  dsimp only
  by_cases e : m < N
  · rw [if_pos e, show max m 1 = m by omega]
    exact bin_ok O H q (N - m) p' m hp' (by omega) ha
  · rw [if_neg e]
    exact q p' hp' (by rw [show N = m by omega]; exact ha)
end
end Mine
end
section
open PySem PySem.W PyProof.Rows PySem.Calls PyProof.Rows.LCg
set_option Elab.async false
set_option maxRecDepth 100000
namespace Mine
theorem set_back_MLawB : True := by w_top off; trivial
noncomputable def lTurn (k : Nat) : List Stmt := (fnBody (nth topS 22)).drop k
noncomputable def lEnv (L fa : Addr) (cd : Value) : Env := envOfC (Str.ofString "law") (fnScope (nth topS 22)) L fa cd
noncomputable def lAr (L fa : Addr) (cd : Value) : Around := callerA.deeper (lEnv L fa cd)
noncomputable def lStmt (k : Nat) : Stmt := match nth (fnBody (nth topS 22)) k with | some st => st | none => .Pass default
noncomputable def baseP : List Int := [3, 4, 2, 1]
/-- the price of the k-th entry -/
noncomputable def priceAt (ns : List Int) (k : Nat) : Int := ((pickNums ns (some (k : Int)) (some 8) (some 4)).sum.natAbs : Int) + baseP.getD k 0
noncomputable def pricesP (ns : List Int) : List Int := (List.range 4).map (priceAt ns)
theorem prices_pos (ns : List Int) : PosP (pricesP ns) := by
  intro k hk
  have e : (pricesP ns).getD k 0 = priceAt ns k := by simp [pricesP, hk]
  rw [e]; unfold priceAt
  have : 0 < baseP.getD k 0 := by
    obtain rfl | rfl | rfl | rfl : k = 0 ∨ k = 1 ∨ k = 2 ∨ k = 3 := by omega
    all_goals decide
  omega
end Mine
end
section
open PySem PySem.W PyProof.Rows PySem.Calls
open PyProof.Rows.LCg (lst NsObj SrcAt)
open PySem.SeqAt
set_option Elab.async false
set_option maxRecDepth 100000
set_option maxHeartbeats 8000000
namespace Mine
theorem set_back_MLaw0 : True := by w_top off; trivial
theorem words_MLaw0 : True := by
  k_with_none
  k_with "m s0" => ((fail_if_success (with_reducible show WStep _ _ _ _ _ _)); (fail_if_success (with_reducible show wpAny _ _ (eval (Expr.ListComp _ _ _ _) _) _ _ _)); (fail_if_success (with_reducible show wpAny _ _ (exec (Stmt.For _ _ _ _ _) _) _ _ _)); (fail_if_success (with_reducible show wpAny _ _ (exec (Stmt.Assign _ (Expr.ListComp _ _ _ _) _ _) _) _ _ _)))
  k_with "m get" => ((repeat (first | assumption | exact get_eq | refine get_ne (by decide) ?_ | rfl)))
  k_with "eval Name" => (((with_reducible show wpAny _ _ (eval (Expr.Name _ _) (envOf _ _ _ _ _)) _ _ _); k_dflt (refine' ld ?z9k1 ?z9k2 ?_; (case z9k1 => k_asm); (case z9k2 => walk_at "m get"); k_whole)))
  k_with "m go" => ((repeat ((fail_if_success (with_reducible show WStep _ _ _ _ _ _)); first | walk1 | (dsimp only; walk1))))
  k_with "subscriptTail" => (((with_reducible show wpAny _ _ (subscriptTail _ _ (Value.ref _) (Value.int _ _)) _ _ _); (refine' item_h ?z9k1 ?z9k2 ?z9k3 ?z9k4 ?_; (case z9k1 => assumption); (case z9k2 => omega); (case z9k3 => omega); (case z9k4 => assumption); k_whole)))
  k_with "setItem ref int" => ((((with_reducible show wpAny _ _ (setItem (Value.ref _) (Value.int _ _) _) _ _ _); (refine' setItem_h ?z9k1 ?z9k2 ?z9k3 ?z9k4 ?z9k5 ?z9k6 ?_; (case z9k1 => assumption); (case z9k2 => assumption); (case z9k3 => assumption); (case z9k4 => omega); (case z9k5 => assumption); (case z9k6 => omega); k_whole); intro h' F' N'); revert h' F' N'; intro _ _ _))
  k_with "call builtin:len" => (((with_reducible show wpAny _ _ (call (Value.builtin _) [Value.ref _]) _ _ _); (refine' len_h ?z9k1 ?z9k2 ?_; (case z9k1 => assumption); (case z9k2 => first | assumption | (simp only [List.length_append, List.length_cons, List.length_nil]; omega)); k_whole)))
  k_with "call builtin:list.append" => ((((with_reducible show wpAny _ _ (call (Value.builtin _) [Value.ref _, _]) _ _ _); (refine' append_h ?z9k1 ?z9k2 ?z9k3 ?z9k4 ?_; (case z9k1 => assumption); (case z9k2 => assumption); (case z9k3 => assumption); (case z9k4 => omega); k_whole); intro h' F' N'); revert h' F' N'; intro _ _ _))
  k_with "call builtin:list.pop" => ((((with_reducible show wpAny _ _ (call (Value.builtin _) [Value.ref _]) _ _ _); (refine' pop_h ?z9k1 ?z9k2 ?z9k3 ?z9k4 ?_; (case z9k1 => assumption); (case z9k2 => assumption); (case z9k3 => assumption); (case z9k4 => omega); k_whole); intro h' F' N'); revert h' F' N'; intro _ _ _))
  k_with "eval Name" => (((with_reducible show wpAny _ _ (eval (Expr.Name _ _) (compEnvC _ _ _ _)) _ _ _); k_dflt (refine' PySem.W.LCgL.ld_own ?z9k1 ?z9k2 ?z9k3 ?z9k4 ?_; (case z9k1 => k_asm); (case z9k2 => exact List.Mem.head _); (case z9k3 => assumption); (case z9k4 => walk_at "m get"); k_whole)))
  k_with "m mem" => (first | assumption | exact List.Mem.head _ | exact List.mem_append.mpr (Or.inl (by assumption)) | exact List.mem_append.mpr (Or.inr (by assumption)) | (refine List.Mem.tail _ ?_; walk_at "m mem"))
  k_with "subscriptTail" => (((with_reducible show wpAny _ _ (subscriptTail _ _ (Value.ref _) (Value.int _ _)) _ _ _); (refine' item_m ?z9k1 ?z9k2 ?z9k3 ?z9k4 ?z9k5 ?_; (case z9k1 => assumption); (case z9k5 => assumption); (case z9k2 => walk_at "m mem"); (case z9k3 => omega); (case z9k4 => omega); k_whole)))
  k_with "m sub" => ((intro q9 hq9; simp only [List.cons_append, List.nil_append, List.append_assoc, List.mem_cons, List.mem_append, List.not_mem_nil, or_false, false_or] at hq9 ⊢; grind))
  k_with "truthy ref" => ((k_dflt (refine' truthy_D ?z9N ?z9d ?z9m ?z9s ?z9f ?_; (case z9N => assumption); (case z9d => assumption); (case z9m => walk_at "m mem"); (case z9s => assumption); (case z9f => first | assumption | decide | omega); k_whole)))
  k_with "truthy ref" => ((k_dflt (refine' truthy_L ?z9N ?z9m ?z9f ?_; (case z9N => assumption); (case z9m => walk_at "m mem"); (case z9f => first | assumption | omega); k_whole)))
  k_with "call type:set" => ((((with_reducible show wpAny _ _ (call (Value.type _) [Value.ref _]) _ _ _); k_dflt (refine' set_new_strsN ?z9F ?z9N ?z9m ?z9v ?z9n ?z9hh ?z9f ?_; (case z9F => assumption); (case z9N => assumption); (case z9m => walk_at "m mem"); (case z9v => assumption); (case z9n => assumption); (case z9hh => exact rfl); (case z9f => first | assumption | omega); k_whole); intro h' tk' D' o' F' N' hS' l1'; (try k_lt l1')); revert h' tk' D' o' F' N' hS' l1'; intro _ _ _ _ _ _ _ _))
  k_with "call type:set nil nil" => (((k_dflt (refine' set_new_0 ?z9F ?z9N ?_; (case z9F => assumption); (case z9N => assumption); k_whole); intro h' D' o' F' N' hS' l1'; (try k_lt l1')); revert h' D' o' F' N' hS' l1'; intro _ _ _ _ _ _ _))
  k_with "getItem ref str" => (((k_dflt (refine' getItem_D ?z9N ?z9d ?z9f ?z9m ?z9s ?z9l ?_; (case z9N => assumption); (case z9d => assumption); (case z9f => assumption); (case z9m => walk_at "m mem"); (case z9s => assumption); (case z9l => assumption); k_whole); intro v' hv'); revert v' hv'; intro _ _))
  k_with "compareOp In str ref" => ((k_dflt (refine' in_set ?z9N ?z9m ?z9d ?_; (case z9N => assumption); (case z9d => assumption); (case z9m => walk_at "m mem"); k_whole)))
  k_with "setItem ref str" => (((k_dflt (refine' setItem_K PyProof.V.same_str (strKind_is _ _ _ _) ?z9v ?z9F ?z9N ?z9U ?z9d ?z9f ?_ ?z9z; (case z9F => assumption); (case z9N => assumption); (case z9U => k_updF); (case z9d => assumption); (case z9f => assumption); (case z9z => (rw [sizeLine_eq]; omega)); (case z9v => k_flat)); intro h' o' F' N' hd' hf'; (try dsimp only at N')); revert h' o' F' N' hd' hf'; intro _ _ _ _ _ _))
  k_with "binaryOp Add str str" => (((refine PyProof.Rows.add_str (hsz := ?z9hsz) ?_); (case z9hsz => (have e1 : (Str.ofString ".").length = 1 := by decide); (have e2 : (Str.ofString "/").length = 1 := by decide); (have e3 : (Str.ofString "/.").length = 2 := by decide); rw [sizeLine_eq]; omega); intro _ _))
  k_with "eval Name" => (((with_reducible show wpAny _ _ (eval (Expr.Name _ _) (compEnvC _ _ _ _)) _ _ _); k_dflt (refine' PySem.W.LCgL.ld_own ?z9k1 ?z9k2 ?z9k3 ?z9k4 ?_; (case z9k1 => k_asm); (case z9k2 => walk_at "m mem"); (case z9k3 => assumption); (case z9k4 => walk_at "m get"); k_whole)))
  k_with "m on" => ((repeat' (walk_at "m s0"; (fail_if_success (with_reducible show wpAny _ _ (call (Value.ref _) _ _) _ _ _)); first | walk1 | (dsimp only; walk1) | (with_reducible refine ite_neg Bool.false_ne_true ?_) | (with_reducible refine ite_pos rfl ?_))))
  k_with "eval Name" => (((with_reducible show wpAny _ _ (eval (Expr.Name _ _) (envOfC _ _ _ _ _)) _ _ _); k_dflt (refine' nameX_L ?z9F ?z9v ?_ ?z9a ?z9b; (case z9F => k_asm); (case z9a => rfl); (case z9b => rfl); (case z9v => walk_at "m get"); k_whole)))
  k_with "m sl" => ((repeat' (walk_at "m s0"; (fail_if_success (with_reducible show wpAny _ _ (call (Value.ref _) _ _) _ _ _)); (fail_if_success (with_reducible show wpAny _ _ (compareOp _ (Value.ref _) (Value.ref _)) _ _ _)); (fail_if_success (with_reducible show wpAny _ _ (subscriptTail _ (PySem.Expr.Slice _ _ _ _) _ _) _ _ _)); first | walk1 | (dsimp only; walk1) | (with_reducible refine ite_neg Bool.false_ne_true ?_) | (with_reducible refine ite_pos rfl ?_))))
  k_with "callWith" => (first | with_reducible refine PyProof.Rows.callWith_method0 ?_ | with_reducible refine PyProof.Rows.callWith_builtin1 ?_ | with_reducible refine PyProof.Rows.callWith_method1 ?_)
  k_with "subscriptTail Name Slice ref ref" => (((k_here; (with_reducible show wpAny _ _ (subscriptTail _ (PySem.Expr.Slice _ _ (some _) _) (Value.ref _) (Value.ref _)) _ _ _); k_dflt (refine' slice3_ints ?z9F ?z9N ?z9m ?z9v ?z9z ?z9p ?z9q ?z9r ?z9o ?_ ?z9s ?z9t; (case z9F => assumption); (case z9N => assumption); (case z9m => assumption); (case z9v => assumption); (case z9p => exact IsPart.int _ _); (case z9q => exact IsPart.int _ _); (case z9r => exact IsPart.int _ _); (case z9o => decide); (case z9z => omega); (case z9s => with_unfolding_all rfl); (case z9t => kmk_pure)); intro D' ws' h' F' N' l1 hI'; (try k_lt l1)); revert D' ws' h' F' N' l1 hI'; intro _ _ _ _ _ _ _))
  k_with "call builtin:sum" => (((k_here; k_dflt (refine' sum_m ?z9F ?z9N ?z9m ?z9v ?_; (case z9F => assumption); (case z9N => assumption); (case z9v => assumption); (case z9m => exact List.Mem.head _)); intro h' tk' t' F' N'); revert h' tk' t' F' N'; intro _ _ _ _ _))
  trivial
theorem slice3_ints {prog : Program} {w : World} {A : Around} {E : Value → Shared → Prop} {s : Shared} {h₀ : Heap} {L l : Addr} {m : Str → Option Value} {news : Led} {value slice : PySem.Expr} {vs : List Value} {ns : List Int} {vl vu vk : Value} {lo hi st : Option Int} {ops : List Value} {Q : Value → Shared → Prop} (F : Fr h₀ L s.heap m) (N : News h₀ L s.heap news) (hl : h₀.IsList l vs.toArray) (hi' : IntsAre vs ns) (hz : ns.length < 1000) (pl : IsPart vl lo) (pu : IsPart vu hi) (pk : IsPart vk st) (h0 : st ≠ some 0)
    (h : ∀ D ws h', Fr h₀ L h' m → News h₀ L h' ((D, listOf (List.toArray ws) 0) :: news) → (∀ p ∈ news, p.1 < D) → IntsAre ws (pickNums ns lo hi st) → Q (.ref D) { s with heap := h' })
    (hs : subscripted slice false (.ref l) (.ref s.heap.objs.size) = operate ops (getItem (.ref l) (.ref s.heap.objs.size))) (ht : ∀ r, letTemporaryGo value (.ref l) r = pure ()) :
    wpAny (model prog w) A (subscriptTail value slice (.ref l) (.ref s.heap.objs.size)) Q E { s with heap := s.heap.push { cls := .type "slice", data := .fields #[vl, vu, vk] } } := by
  obtain ⟨o, ho, r⟩ := hl
  refine slice_list3 F N ⟨o, F.keep _ _ ho, r⟩ pl pu pk h0 (fun h' F' N' => h _ (slicePick vs.toArray lo hi st).toList h' F' ?_ (fun p hp => Nat.lt_succ_of_lt (Heap.lt_size (N p hp).1)) (hi'.pick lo hi st)) hs ht (by rw [List.size_toArray, hi'.length, sizeLine_eq]; omega)
  rw [Array.toArray_toList]
  exact N'
theorem sum_m {prog : Program} {w : World} {A : Around} {E : Value → Shared → Prop} {s : Shared} {h₀ : Heap} {L l : Addr} {m : Str → Option Value} {news : Led} {vs : List Value} {ns : List Int} {q : Nat} {Q : Value → Shared → Prop} (F : Fr h₀ L s.heap m) (N : News h₀ L s.heap news) (hm : (l, listOf vs.toArray q) ∈ news) (hi : IntsAre vs ns) (hh : A.handled = none := by rfl)
    (h : ∀ h' tk t', Fr h₀ L h' m → News h₀ L h' news → Q (.int ns.sum t') { s with heap := h', toks := tk }) : wpAny (model prog w) A (call (.builtin "sum") [.ref l]) Q E s :=
  PyProof.Rows.LSm.sum_ints F N hh (N.isList hm) hi h
theorem law0 {w : World} {s : Shared} {g : Heap} {L fa : Addr} {cd : Value} {m mg mb : Str → Option Value} {mean : ExcName → Option Value} {p : Program} {loose : List Str}
 (X : (Mine.hd.heap_1 w.params).In g) (T : Top p loose mean mg mb g) (F : Fr g L s.heap m) {sc : Addr} {sv : List Value} {ns : List Int} {oN oP oK oS : Obj} {vP : Option Value} (N : News g L s.heap [(L + 1 + 1 + 1 + 1, oN), (L + 1 + 1 + 1, oP), (L + 1 + 1, oK), (L + 1, oS)]) (hS : oS.data = .cell (some (.ref sc))) (hP : oP.data = .cell vP) (hsc : g.IsList sc sv.toArray) (hi : IntsAre sv ns) (hl : ns.length ≤ 63) {Q : Flow → Shared → Prop}
 (h : ∀ h' tk dr oP pa pv, Fr g L h' m → News g L h' [(pa, lst pv), (L + 1 + 1 + 1 + 1, oN), (L + 1 + 1 + 1, oP), (L + 1 + 1, oK), (L + 1, oS)] → oP.data = .cell (some (.ref pa)) → IntsAre pv (pricesP ns) → (∀ p ∈ [(L + 1 + 1 + 1 + 1, oN), (L + 1 + 1 + 1, oP), (L + 1 + 1, oK), (L + 1, oS)], p.1 ≠ pa) → Q .next { s with heap := h', toks := tk, drawn := dr }) :
 wpAny (model PySem.Challenge.rw_nq0047_02.row.prog w) (lAr L fa cd) (exec (lStmt 0) (lEnv L fa cd)) Q NoE s := by
  revert X
  k_fill
  intro X
  dsimp only [lAr, lStmt, lEnv, topS, PySem.Challenge.pw_nq0047_02, nth, fnBody, fnScope, whBody, List.drop]
  refine wpAny_Assign_Name ?_ (by with_unfolding_all rfl)
  refine comp_eval (h₀ := g) (L := L) rfl ?_ rfl ?_ ?_
  · decide
  · decide
  walk_at "m go"
  rename_i lb hb Fb Nb l1
  generalize hitb : (#[Value.int 3 s.toks, Value.int 4 (s.toks + 1), Value.int 2 (s.toks + 1 + 1), Value.int 1 (s.toks + 1 + 1 + 1)] : Array Value) = itb at Nb
  have hsz : itb.size = 4 := by rw [← hitb]; rfl
  refine enum_new Fb Nb (.inr ⟨_, .head _, rfl, _, rfl⟩) fun h1 e it own hne F1 N1 off1 ok1 => ?_
  refine self_enum _ _ _ ok1 N1 _ ?_
  refine ⟨e, [e, it], own, _, _, itb.size, _, _, fun i ys nw => nw = (lb, listOf itb 0) :: [(L + 1 + 1 + 1 + 1, oN), (L + 1 + 1 + 1, oP), (L + 1 + 1, oK), (L + 1, oS)] ∧ IntsAre ys ((List.range i).map (priceAt ns)), rfl, nextOk_enum rfl hne, self_enum, by omega, ?_, F1, N1, off1, ok1, ⟨rfl, .nil⟩, ?_, ?_⟩
  · rintro i ys nw ⟨rfl, hi⟩
    rw [hi.length]; simp
  · clear Fb Nb F1 N1 off1 ok1
    rintro i v ys nw own' C oC D mC h2 tk2 dr2 ext hi4 ⟨Tt, t, x, hx, rfl, rfl⟩ ⟨rfl, hJ⟩ offc hext hCD hoC F2 N2 ok2
    obtain ⟨t9, rfl⟩ : ∃ t9, x = .int (baseP.getD i 0) t9 := by
      obtain rfl | rfl | rfl | rfl : i = 0 ∨ i = 1 ∨ i = 2 ∨ i = 3 := by omega
      all_goals (rw [← hitb] at hx; cases hx; exact ⟨_, rfl⟩)
    have offC := off_comp (oD := lst ys) hCD offc hext ((nextOk_enum (A := {}) rfl hne : NextOk PySem.Challenge.rw_nq0047_02.row.prog w {} g L (.Tuple [] 0 default) e [e, it] itb.size _ _).at_ _ _ _ ok2)
    refine assign_pair rfl F2 N2 (.inr ⟨_, .tail _ (.tail _ (.head _)), rfl, _, rfl⟩) fun h3 F3 N3 => ?_
    refine store_comp F3 N3 hoC offC ?_ rfl rfl
    intro h4 oC4 hoC4 F4 N4
    refine store_comp F4 N4 hoC4 offC ?_ rfl rfl
    intro h5 oC5 hoC5 F5 N5
    simp only [List.cons_append, List.nil_append] at N5
    clear N4 N3 N2 F4 F3 F2 hoC4 hoC
    refine wpAny_pure ?_
    with_reducible refine ite_pos rfl ?_
    walk_at "m sl"
    refine slice3_ints (vs := sv) (ns := ns) (by assumption) N5 hsc hi (by omega) (IsPart.int _ _) (IsPart.int _ _) (IsPart.int _ _) (by decide) ?_ (by with_unfolding_all rfl) (by kmk_pure)
    intro D6 ws6 h6 F6 N6 l6 hI6
    k_sweep
    walk_at "m on"
    refine ⟨_, _, _, own', oC5, _, _, rfl, by assumption, hoC5, news_sub (by assumption) (by walk_at "m sub"), offc, ok2, rfl, ?_⟩
    rw [List.range_succ, List.map_append]
    refine hJ.append ?_
    rw [show ∀ x : Int, (if x < 0 then -x else x) = (x.natAbs : Int) from fun x => by split <;> omega]
    exact .cons _ _ .nil
  · clear Fb Nb F1 N1 off1 ok1
    rintro D C oC mC h2 tk2 dr2 ys nw F2 hoC N2 hCD off2 ⟨rfl, hJ⟩ h3 F3 N3 off3
    k_sweep
    rw [hsz] at hJ
    have hJ' : IntsAre ys (pricesP ns) := by unfold pricesP; exact hJ
    clear hJ
    have n1 := off3 _ (.tail _ (.head _))
    have n2 := off3 _ (.tail _ (.tail _ (.head _)))
    have n3 := off3 _ (.tail _ (.tail _ (.tail _ (.head _))))
    have n4 := off3 _ (.tail _ (.tail _ (.tail _ (.tail _ (.head _)))))
    have n5 := off3 _ (.head _)
    replace N3 : News g L h3 [(D, lst ys), (L + 1 + 1 + 1 + 1, oN), (L + 1 + 1 + 1, oP), (L + 1 + 1, oK), (L + 1, oS)] := news_sub N3 (by walk_at "m sub")
    dsimp only at n1 n2 n3 n4
    walk1
    rename_i h9 oP9 F9 N9 dP9
    (try dsimp only)
    refine h _ _ _ oP9 D ys F9 N9 dP9 hJ' ?_
    intro p hp
    simp only [List.mem_cons, List.not_mem_nil, or_false] at hp
    rcases hp with rfl | rfl | rfl | rfl
    · exact n1
    · exact n2
    · exact n3
    · exact n4
end Mine
end
section
open PySem PySem.W PyProof.Rows PySem.Calls
open PyProof.Rows.LCg (lst NsObj SrcAt)
open PySem.SeqAt
set_option Elab.async false
set_option maxRecDepth 100000
set_option maxHeartbeats 8000000
namespace Mine
theorem set_back_MLaw1 : True := by w_top off; trivial
theorem words_MLaw1 : True := by
  k_with_none
  k_with "m s0" => ((fail_if_success (with_reducible show WStep _ _ _ _ _ _)); (fail_if_success (with_reducible show wpAny _ _ (eval (Expr.ListComp _ _ _ _) _) _ _ _)); (fail_if_success (with_reducible show wpAny _ _ (exec (Stmt.For _ _ _ _ _) _) _ _ _)); (fail_if_success (with_reducible show wpAny _ _ (exec (Stmt.Assign _ (Expr.ListComp _ _ _ _) _ _) _) _ _ _)))
  k_with "m get" => ((repeat (first | assumption | exact get_eq | refine get_ne (by decide) ?_ | rfl)))
  k_with "eval Name" => (((with_reducible show wpAny _ _ (eval (Expr.Name _ _) (envOf _ _ _ _ _)) _ _ _); k_dflt (refine' ld ?z9k1 ?z9k2 ?_; (case z9k1 => k_asm); (case z9k2 => walk_at "m get"); k_whole)))
  k_with "subscriptTail" => (((with_reducible show wpAny _ _ (subscriptTail _ _ (Value.ref _) (Value.int _ _)) _ _ _); (refine' item_h ?z9k1 ?z9k2 ?z9k3 ?z9k4 ?_; (case z9k1 => assumption); (case z9k2 => omega); (case z9k3 => omega); (case z9k4 => assumption); k_whole)))
  k_with "setItem ref int" => ((((with_reducible show wpAny _ _ (setItem (Value.ref _) (Value.int _ _) _) _ _ _); (refine' setItem_h ?z9k1 ?z9k2 ?z9k3 ?z9k4 ?z9k5 ?z9k6 ?_; (case z9k1 => assumption); (case z9k2 => assumption); (case z9k3 => assumption); (case z9k4 => omega); (case z9k5 => assumption); (case z9k6 => omega); k_whole); intro h' F' N'); revert h' F' N'; intro _ _ _))
  k_with "call builtin:len" => (((with_reducible show wpAny _ _ (call (Value.builtin _) [Value.ref _]) _ _ _); (refine' len_h ?z9k1 ?z9k2 ?_; (case z9k1 => assumption); (case z9k2 => first | assumption | (simp only [List.length_append, List.length_cons, List.length_nil]; omega)); k_whole)))
  k_with "call builtin:list.append" => ((((with_reducible show wpAny _ _ (call (Value.builtin _) [Value.ref _, _]) _ _ _); (refine' append_h ?z9k1 ?z9k2 ?z9k3 ?z9k4 ?_; (case z9k1 => assumption); (case z9k2 => assumption); (case z9k3 => assumption); (case z9k4 => omega); k_whole); intro h' F' N'); revert h' F' N'; intro _ _ _))
  k_with "call builtin:list.pop" => ((((with_reducible show wpAny _ _ (call (Value.builtin _) [Value.ref _]) _ _ _); (refine' pop_h ?z9k1 ?z9k2 ?z9k3 ?z9k4 ?_; (case z9k1 => assumption); (case z9k2 => assumption); (case z9k3 => assumption); (case z9k4 => omega); k_whole); intro h' F' N'); revert h' F' N'; intro _ _ _))
  k_with "eval Name" => (((with_reducible show wpAny _ _ (eval (Expr.Name _ _) (compEnvC _ _ _ _)) _ _ _); k_dflt (refine' PySem.W.LCgL.ld_own ?z9k1 ?z9k2 ?z9k3 ?z9k4 ?_; (case z9k1 => k_asm); (case z9k2 => exact List.Mem.head _); (case z9k3 => assumption); (case z9k4 => walk_at "m get"); k_whole)))
  k_with "m mem" => (first | assumption | exact List.Mem.head _ | exact List.mem_append.mpr (Or.inl (by assumption)) | exact List.mem_append.mpr (Or.inr (by assumption)) | (refine List.Mem.tail _ ?_; walk_at "m mem"))
  k_with "subscriptTail" => (((with_reducible show wpAny _ _ (subscriptTail _ _ (Value.ref _) (Value.int _ _)) _ _ _); (refine' item_m ?z9k1 ?z9k2 ?z9k3 ?z9k4 ?z9k5 ?_; (case z9k1 => assumption); (case z9k5 => assumption); (case z9k2 => walk_at "m mem"); (case z9k3 => omega); (case z9k4 => omega); k_whole)))
  k_with "truthy ref" => ((k_dflt (refine' truthy_D ?z9N ?z9d ?z9m ?z9s ?z9f ?_; (case z9N => assumption); (case z9d => assumption); (case z9m => walk_at "m mem"); (case z9s => assumption); (case z9f => first | assumption | decide | omega); k_whole)))
  k_with "truthy ref" => ((k_dflt (refine' truthy_L ?z9N ?z9m ?z9f ?_; (case z9N => assumption); (case z9m => walk_at "m mem"); (case z9f => first | assumption | omega); k_whole)))
  k_with "call type:set" => ((((with_reducible show wpAny _ _ (call (Value.type _) [Value.ref _]) _ _ _); k_dflt (refine' set_new_strsN ?z9F ?z9N ?z9m ?z9v ?z9n ?z9hh ?z9f ?_; (case z9F => assumption); (case z9N => assumption); (case z9m => walk_at "m mem"); (case z9v => assumption); (case z9n => assumption); (case z9hh => exact rfl); (case z9f => first | assumption | omega); k_whole); intro h' tk' D' o' F' N' hS' l1'; (try k_lt l1')); revert h' tk' D' o' F' N' hS' l1'; intro _ _ _ _ _ _ _ _))
  k_with "call type:set nil nil" => (((k_dflt (refine' set_new_0 ?z9F ?z9N ?_; (case z9F => assumption); (case z9N => assumption); k_whole); intro h' D' o' F' N' hS' l1'; (try k_lt l1')); revert h' D' o' F' N' hS' l1'; intro _ _ _ _ _ _ _))
  k_with "getItem ref str" => (((k_dflt (refine' getItem_D ?z9N ?z9d ?z9f ?z9m ?z9s ?z9l ?_; (case z9N => assumption); (case z9d => assumption); (case z9f => assumption); (case z9m => walk_at "m mem"); (case z9s => assumption); (case z9l => assumption); k_whole); intro v' hv'); revert v' hv'; intro _ _))
  k_with "compareOp In str ref" => ((k_dflt (refine' in_set ?z9N ?z9m ?z9d ?_; (case z9N => assumption); (case z9d => assumption); (case z9m => walk_at "m mem"); k_whole)))
  k_with "setItem ref str" => (((k_dflt (refine' setItem_K PyProof.V.same_str (strKind_is _ _ _ _) ?z9v ?z9F ?z9N ?z9U ?z9d ?z9f ?_ ?z9z; (case z9F => assumption); (case z9N => assumption); (case z9U => k_updF); (case z9d => assumption); (case z9f => assumption); (case z9z => (rw [sizeLine_eq]; omega)); (case z9v => k_flat)); intro h' o' F' N' hd' hf'; (try dsimp only at N')); revert h' o' F' N' hd' hf'; intro _ _ _ _ _ _))
  k_with "binaryOp Add str str" => (((refine PyProof.Rows.add_str (hsz := ?z9hsz) ?_); (case z9hsz => (have e1 : (Str.ofString ".").length = 1 := by decide); (have e2 : (Str.ofString "/").length = 1 := by decide); (have e3 : (Str.ofString "/.").length = 2 := by decide); rw [sizeLine_eq]; omega); intro _ _))
  k_with "eval Name" => (((with_reducible show wpAny _ _ (eval (Expr.Name _ _) (compEnvC _ _ _ _)) _ _ _); k_dflt (refine' PySem.W.LCgL.ld_own ?z9k1 ?z9k2 ?z9k3 ?z9k4 ?_; (case z9k1 => k_asm); (case z9k2 => walk_at "m mem"); (case z9k3 => assumption); (case z9k4 => walk_at "m get"); k_whole)))
  k_with "m on" => ((repeat' (walk_at "m s0"; (fail_if_success (with_reducible show wpAny _ _ (call (Value.ref _) _ _) _ _ _)); first | walk1 | (dsimp only; walk1) | (with_reducible refine ite_neg Bool.false_ne_true ?_) | (with_reducible refine ite_pos rfl ?_))))
  k_with "eval Name" => (((with_reducible show wpAny _ _ (eval (Expr.Name _ _) (envOfC _ _ _ _ _)) _ _ _); k_dflt (refine' nameX_L ?z9F ?z9v ?_ ?z9a ?z9b; (case z9F => k_asm); (case z9a => rfl); (case z9b => rfl); (case z9v => walk_at "m get"); k_whole)))
  k_with "callWith" => (first | with_reducible refine PyProof.Rows.callWith_method0 ?_ | with_reducible refine PyProof.Rows.callWith_builtin1 ?_ | with_reducible refine PyProof.Rows.callWith_method1 ?_)
  trivial
theorem law1 {w : World} {s : Shared} {g : Heap} {L fa : Addr} {cd : Value} {m mg mb : Str → Option Value} {mean : ExcName → Option Value} {p : Program} {loose : List Str}
 (X : (Mine.hd.heap_1 w.params).In g) (T : Top p loose mean mg mb g) (F : Fr g L s.heap m) {led : Led} (N : News g L s.heap led) {Q : Flow → Shared → Prop}
 (h : ∀ h' tk ca cvs q new, Fr g L h' (fun y => if y = Str.ofString "calls" then some (.ref ca) else m y) → News g L h' (new ++ led) → (ca, listOf (List.toArray cvs) q) ∈ new → CallsOk cvs new callsL → (∀ p ∈ led, ∀ q ∈ new, p.1 < q.1) → Q .next { s with heap := h', toks := tk }) :
 wpAny (model PySem.Challenge.rw_nq0047_02.row.prog w) (lAr L fa cd) (exec (lStmt 1) (lEnv L fa cd)) Q NoE s := by
  revert X
  k_fill
  intro X
  dsimp only [lAr, lStmt, lEnv, topS, PySem.Challenge.pw_nq0047_02, nth, fnBody, fnScope, whBody, List.drop]
  walk_at "m on"
  rename_i T1 a1 l1 T2 a2 l2 T3 a3 l3 T4 a4 l4 T5 a5 l5 T6 a6 l6 ca a7 l7 h9 F9 N9
  have lt1 : ∀ p ∈ led, p.1 < T1 := l1
  refine h _ _ ca [.ref T1, .ref T2, .ref T3, .ref T4, .ref T5, .ref T6] 0 [_, _, _, _, _, _, _] F9 N9 (.head _) ⟨rfl, fun i hi => ?_⟩ ?_
  · have hi6 : i < 6 := hi
    obtain rfl | rfl | rfl | rfl | rfl | rfl : i = 0 ∨ i = 1 ∨ i = 2 ∨ i = 3 ∨ i = 4 ∨ i = 5 := by omega
    · exact ⟨T1, _, _, rfl, .tail _ (.tail _ (.tail _ (.tail _ (.tail _ (.tail _ (.head _)))))), .inr ⟨_, _, rfl, rfl⟩⟩
    · exact ⟨T2, _, _, rfl, .tail _ (.tail _ (.tail _ (.tail _ (.tail _ (.head _))))), .inr ⟨_, _, rfl, rfl⟩⟩
    · exact ⟨T3, _, _, rfl, .tail _ (.tail _ (.tail _ (.tail _ (.head _)))), .inr ⟨_, _, rfl, rfl⟩⟩
    · exact ⟨T4, _, _, rfl, .tail _ (.tail _ (.tail _ (.head _))), .inr ⟨_, _, rfl, rfl⟩⟩
    · exact ⟨T5, _, _, rfl, .tail _ (.tail _ (.head _)), .inr ⟨_, _, rfl, rfl⟩⟩
    · exact ⟨T6, _, _, rfl, .tail _ (.head _), .inl ⟨rfl, rfl⟩⟩
  · intro p hp q hq
    have b1 := lt1 p hp
    simp only [List.mem_cons, List.not_mem_nil, or_false] at hq
    rcases hq with rfl | rfl | rfl | rfl | rfl | rfl | rfl
    · exact Nat.lt_trans b1 l7.2.2.2.2.2.1
    · exact Nat.lt_trans b1 l6.2.2.2.2.1
    · exact Nat.lt_trans b1 l5.2.2.2.1
    · exact Nat.lt_trans b1 l4.2.2.1
    · exact Nat.lt_trans b1 l3.2.1
    · exact Nat.lt_trans b1 l2.1
    · exact b1
end Mine
end
section
open PySem PySem.W PyProof.Rows PySem.Calls
open PyProof.Rows.LCg (lst NsObj SrcAt)
open PySem.SeqAt
set_option Elab.async false
set_option maxRecDepth 100000
set_option maxHeartbeats 8000000
namespace Mine
theorem set_back_MLaw2 : True := by w_top off; trivial
theorem words_MLaw2 : True := by
  k_with_none
  k_with "m s0" => ((fail_if_success (with_reducible show WStep _ _ _ _ _ _)); (fail_if_success (with_reducible show wpAny _ _ (eval (Expr.ListComp _ _ _ _) _) _ _ _)); (fail_if_success (with_reducible show wpAny _ _ (exec (Stmt.For _ _ _ _ _) _) _ _ _)); (fail_if_success (with_reducible show wpAny _ _ (exec (Stmt.Assign _ (Expr.ListComp _ _ _ _) _ _) _) _ _ _)))
  k_with "m get" => ((repeat (first | assumption | exact get_eq | refine get_ne (by decide) ?_ | rfl)))
  k_with "eval Name" => (((with_reducible show wpAny _ _ (eval (Expr.Name _ _) (envOf _ _ _ _ _)) _ _ _); k_dflt (refine' ld ?z9k1 ?z9k2 ?_; (case z9k1 => k_asm); (case z9k2 => walk_at "m get"); k_whole)))
  k_with "subscriptTail" => (((with_reducible show wpAny _ _ (subscriptTail _ _ (Value.ref _) (Value.int _ _)) _ _ _); (refine' item_h ?z9k1 ?z9k2 ?z9k3 ?z9k4 ?_; (case z9k1 => assumption); (case z9k2 => omega); (case z9k3 => omega); (case z9k4 => assumption); k_whole)))
  k_with "setItem ref int" => ((((with_reducible show wpAny _ _ (setItem (Value.ref _) (Value.int _ _) _) _ _ _); (refine' setItem_h ?z9k1 ?z9k2 ?z9k3 ?z9k4 ?z9k5 ?z9k6 ?_; (case z9k1 => assumption); (case z9k2 => assumption); (case z9k3 => assumption); (case z9k4 => omega); (case z9k5 => assumption); (case z9k6 => omega); k_whole); intro h' F' N'); revert h' F' N'; intro _ _ _))
  k_with "call builtin:len" => (((with_reducible show wpAny _ _ (call (Value.builtin _) [Value.ref _]) _ _ _); (refine' len_h ?z9k1 ?z9k2 ?_; (case z9k1 => assumption); (case z9k2 => first | assumption | (simp only [List.length_append, List.length_cons, List.length_nil]; omega)); k_whole)))
  k_with "call builtin:list.append" => ((((with_reducible show wpAny _ _ (call (Value.builtin _) [Value.ref _, _]) _ _ _); (refine' append_h ?z9k1 ?z9k2 ?z9k3 ?z9k4 ?_; (case z9k1 => assumption); (case z9k2 => assumption); (case z9k3 => assumption); (case z9k4 => omega); k_whole); intro h' F' N'); revert h' F' N'; intro _ _ _))
  k_with "call builtin:list.pop" => ((((with_reducible show wpAny _ _ (call (Value.builtin _) [Value.ref _]) _ _ _); (refine' pop_h ?z9k1 ?z9k2 ?z9k3 ?z9k4 ?_; (case z9k1 => assumption); (case z9k2 => assumption); (case z9k3 => assumption); (case z9k4 => omega); k_whole); intro h' F' N'); revert h' F' N'; intro _ _ _))
  k_with "eval Name" => (((with_reducible show wpAny _ _ (eval (Expr.Name _ _) (compEnvC _ _ _ _)) _ _ _); k_dflt (refine' PySem.W.LCgL.ld_own ?z9k1 ?z9k2 ?z9k3 ?z9k4 ?_; (case z9k1 => k_asm); (case z9k2 => exact List.Mem.head _); (case z9k3 => assumption); (case z9k4 => walk_at "m get"); k_whole)))
  k_with "m mem" => (first | assumption | exact List.Mem.head _ | exact List.mem_append.mpr (Or.inl (by assumption)) | exact List.mem_append.mpr (Or.inr (by assumption)) | (refine List.Mem.tail _ ?_; walk_at "m mem"))
  k_with "subscriptTail" => (((with_reducible show wpAny _ _ (subscriptTail _ _ (Value.ref _) (Value.int _ _)) _ _ _); (refine' item_m ?z9k1 ?z9k2 ?z9k3 ?z9k4 ?z9k5 ?_; (case z9k1 => assumption); (case z9k5 => assumption); (case z9k2 => walk_at "m mem"); (case z9k3 => omega); (case z9k4 => omega); k_whole)))
  k_with "truthy ref" => ((k_dflt (refine' truthy_D ?z9N ?z9d ?z9m ?z9s ?z9f ?_; (case z9N => assumption); (case z9d => assumption); (case z9m => walk_at "m mem"); (case z9s => assumption); (case z9f => first | assumption | decide | omega); k_whole)))
  k_with "truthy ref" => ((k_dflt (refine' truthy_L ?z9N ?z9m ?z9f ?_; (case z9N => assumption); (case z9m => walk_at "m mem"); (case z9f => first | assumption | omega); k_whole)))
  k_with "call type:set" => ((((with_reducible show wpAny _ _ (call (Value.type _) [Value.ref _]) _ _ _); k_dflt (refine' set_new_strsN ?z9F ?z9N ?z9m ?z9v ?z9n ?z9hh ?z9f ?_; (case z9F => assumption); (case z9N => assumption); (case z9m => walk_at "m mem"); (case z9v => assumption); (case z9n => assumption); (case z9hh => exact rfl); (case z9f => first | assumption | omega); k_whole); intro h' tk' D' o' F' N' hS' l1'; (try k_lt l1')); revert h' tk' D' o' F' N' hS' l1'; intro _ _ _ _ _ _ _ _))
  k_with "call type:set nil nil" => (((k_dflt (refine' set_new_0 ?z9F ?z9N ?_; (case z9F => assumption); (case z9N => assumption); k_whole); intro h' D' o' F' N' hS' l1'; (try k_lt l1')); revert h' D' o' F' N' hS' l1'; intro _ _ _ _ _ _ _))
  k_with "getItem ref str" => (((k_dflt (refine' getItem_D ?z9N ?z9d ?z9f ?z9m ?z9s ?z9l ?_; (case z9N => assumption); (case z9d => assumption); (case z9f => assumption); (case z9m => walk_at "m mem"); (case z9s => assumption); (case z9l => assumption); k_whole); intro v' hv'); revert v' hv'; intro _ _))
  k_with "compareOp In str ref" => ((k_dflt (refine' in_set ?z9N ?z9m ?z9d ?_; (case z9N => assumption); (case z9d => assumption); (case z9m => walk_at "m mem"); k_whole)))
  k_with "setItem ref str" => (((k_dflt (refine' setItem_K PyProof.V.same_str (strKind_is _ _ _ _) ?z9v ?z9F ?z9N ?z9U ?z9d ?z9f ?_ ?z9z; (case z9F => assumption); (case z9N => assumption); (case z9U => k_updF); (case z9d => assumption); (case z9f => assumption); (case z9z => (rw [sizeLine_eq]; omega)); (case z9v => k_flat)); intro h' o' F' N' hd' hf'; (try dsimp only at N')); revert h' o' F' N' hd' hf'; intro _ _ _ _ _ _))
  k_with "binaryOp Add str str" => (((refine PyProof.Rows.add_str (hsz := ?z9hsz) ?_); (case z9hsz => (have e1 : (Str.ofString ".").length = 1 := by decide); (have e2 : (Str.ofString "/").length = 1 := by decide); (have e3 : (Str.ofString "/.").length = 2 := by decide); rw [sizeLine_eq]; omega); intro _ _))
  k_with "eval Name" => (((with_reducible show wpAny _ _ (eval (Expr.Name _ _) (compEnvC _ _ _ _)) _ _ _); k_dflt (refine' PySem.W.LCgL.ld_own ?z9k1 ?z9k2 ?z9k3 ?z9k4 ?_; (case z9k1 => k_asm); (case z9k2 => walk_at "m mem"); (case z9k3 => assumption); (case z9k4 => walk_at "m get"); k_whole)))
  k_with "m on" => ((repeat' (walk_at "m s0"; (fail_if_success (with_reducible show wpAny _ _ (call (Value.ref _) _ _) _ _ _)); first | walk1 | (dsimp only; walk1) | (with_reducible refine ite_neg Bool.false_ne_true ?_) | (with_reducible refine ite_pos rfl ?_))))
  k_with "eval Name" => (((with_reducible show wpAny _ _ (eval (Expr.Name _ _) (envOfC _ _ _ _ _)) _ _ _); k_dflt (refine' nameX_L ?z9F ?z9v ?_ ?z9a ?z9b; (case z9F => k_asm); (case z9a => rfl); (case z9b => rfl); (case z9v => walk_at "m get"); k_whole)))
  k_with "callWith" => (first | with_reducible refine PyProof.Rows.callWith_method0 ?_ | with_reducible refine PyProof.Rows.callWith_builtin1 ?_ | with_reducible refine PyProof.Rows.callWith_method1 ?_)
  trivial
theorem law2 {w : World} {s : Shared} {g : Heap} {L fa : Addr} {cd : Value} {m mg mb : Str → Option Value} {mean : ExcName → Option Value} {p : Program} {loose : List Str}
 (X : (Mine.hd.heap_1 w.params).In g) (T : Top p loose mean mg mb g) (F : Fr g L s.heap m) {led : Led} (N : News g L s.heap led) {Q : Flow → Shared → Prop}
 (h : ∀ h' tk D, Fr g L h' (fun y => if y = Str.ofString "wishes" then some (.ref D) else m y) → News g L h' ((D, listOf #[] 0) :: led) → (∀ p ∈ led, p.1 < D) → Q .next { s with heap := h', toks := tk }) :
 wpAny (model PySem.Challenge.rw_nq0047_02.row.prog w) (lAr L fa cd) (exec (lStmt 2) (lEnv L fa cd)) Q NoE s := by
  revert X
  k_fill
  intro X
  dsimp only [lAr, lStmt, lEnv, topS, PySem.Challenge.pw_nq0047_02, nth, fnBody, fnScope, whBody, List.drop]
  walk_at "m on"
  rename_i D a1 l1 h9 F9 N9
  exact h _ _ D F9 N9 l1
theorem law5 {w : World} {s : Shared} {g : Heap} {L fa : Addr} {cd : Value} {m mg mb : Str → Option Value} {mean : ExcName → Option Value} {p : Program} {loose : List Str}
 (X : (Mine.hd.heap_1 w.params).In g) (T : Top p loose mean mg mb g) (F : Fr g L s.heap m) {led : Led} (N : News g L s.heap led) {Q : Flow → Shared → Prop}
 (h : ∀ h' tk D, Fr g L h' (fun y => if y = Str.ofString "pairs" then some (.ref D) else m y) → News g L h' ((D, listOf #[] 0) :: led) → (∀ p ∈ led, p.1 < D) → Q .next { s with heap := h', toks := tk }) :
 wpAny (model PySem.Challenge.rw_nq0047_02.row.prog w) (lAr L fa cd) (exec (lStmt 5) (lEnv L fa cd)) Q NoE s := by
  revert X
  k_fill
  intro X
  dsimp only [lAr, lStmt, lEnv, topS, PySem.Challenge.pw_nq0047_02, nth, fnBody, fnScope, whBody, List.drop]
  walk_at "m on"
  rename_i D a1 l1 h9 F9 N9
  exact h _ _ D F9 N9 l1
theorem law7 {w : World} {s : Shared} {g : Heap} {L fa : Addr} {cd : Value} {m mg mb : Str → Option Value} {mean : ExcName → Option Value} {p : Program} {loose : List Str}
 (X : (Mine.hd.heap_1 w.params).In g) (T : Top p loose mean mg mb g) (F : Fr g L s.heap m) {led : Led} (N : News g L s.heap led) {Q : Flow → Shared → Prop}
 (h : ∀ h' tk D, Fr g L h' (fun y => if y = Str.ofString "due" then some (.ref D) else m y) → News g L h' ((D, listOf #[] 0) :: led) → (∀ p ∈ led, p.1 < D) → Q .next { s with heap := h', toks := tk }) :
 wpAny (model PySem.Challenge.rw_nq0047_02.row.prog w) (lAr L fa cd) (exec (lStmt 7) (lEnv L fa cd)) Q NoE s := by
  revert X
  k_fill
  intro X
  dsimp only [lAr, lStmt, lEnv, topS, PySem.Challenge.pw_nq0047_02, nth, fnBody, fnScope, whBody, List.drop]
  walk_at "m on"
  rename_i D a1 l1 h9 F9 N9
  exact h _ _ D F9 N9 l1
end Mine
end
section
open PySem PySem.W PyProof.Rows PySem.Calls PySem.SeqAt PyProof.Rows.LCg
set_option Elab.async false
set_option maxRecDepth 100000
set_option maxHeartbeats 1000000
namespace Mine
theorem set_back_MSort2 : True := by w_top off; trivial
theorem katTups_of {led : Led} {h : Heap} (hh : ∀ p ∈ led, h.get? p.1 = some p.2) : ∀ vs : List Value, (∀ v ∈ vs, ∃ k, KeyIn led v k) → ∃ fs, KatTups h vs fs ∧ fs.length = vs.length ∧ ∀ f ∈ fs, ∃ (i : Int) (t : Tok), f = .int i t
  | [], _ => ⟨[], .nil, rfl, fun f hf => nomatch hf⟩
  | v :: vs, hv => by
    obtain ⟨fs, h1, h2, h3⟩ := katTups_of hh vs fun u hu => hv u (.tail _ hu)
    obtain ⟨k, a, c, u, cv, rfl, ha, hc, hi⟩ := hv v (.head _)
    refine ⟨.int k.1 u :: fs, .cons (hh _ ha) rfl rfl rfl h1, by simp [h2], fun f hf => ?_⟩
    rcases List.mem_cons.mp hf with rfl | hf
    · exact ⟨_, _, rfl⟩
    · exact h3 f hf
theorem KeysIn.val {led : Led} {vs : List Value} {ks : List Key} (h : KeysIn led vs ks) {i : Nat} (hi : i < vs.length) : KeyIn led (vs.getD i Value.none) (ks.getD i (0, [])) := by
  have hl := h.1
  obtain ⟨v, e, hk⟩ := h.2 i (by omega)
  have e1 : vs.getD i Value.none = v := by rw [List.getD_eq_getElem?_getD, e]; rfl
  have e2 : ks.getD i (0, []) = ks[i]'(by omega) := by rw [List.getD_eq_getElem?_getD, List.getElem?_eq_getElem (by omega)]; rfl
  rw [e1, e2]; exact hk
theorem map_getD_range {α : Type} (d : α) : ∀ l : List α, (List.range l.length).map (fun i => l.getD i d) = l := by
  intro l
  apply List.ext_getElem
  · simp
  · intro i h1 h2
    simp [h2]
theorem sorted_K {prog : Program} {w : World} {A : Around} {E : Value → Shared → Prop} {s : Shared} {h₀ : Heap} {L l : Addr} {m : Str → Option Value} {led led0 : Led} {vs : List Value} {ks : List Key} {q : Nat} {Q : Value → Shared → Prop}
    (F : Fr h₀ L s.heap m) (N : News h₀ L s.heap led) (hm : (l, listOf vs.toArray q) ∈ led) (h0 : ∀ p ∈ led0, p ∈ led) (hk : KeysIn led0 vs ks) (h2 : 2 ≤ vs.length) (h64 : vs.length < 64) (hnd : ks.Nodup) (hu : A.units + 10 < cLine)
    (h : ∀ h' D ws ks' c, Fr h₀ L h' m → News h₀ L h' ((D, listOf (List.toArray ws) c) :: led) → (∀ q ∈ led, q.1 < D) → KeysIn led0 ws ks' → ks'.Perm ks → (ks'.Pairwise fun a b => ltK a b = true) → Q (.ref D) { s with heap := h' }) :
    wpAny (model prog w) A (call (.builtin "sorted") [.ref l]) Q E s := by
  refine kat_sorted F N (N.isList hm) h2 h64 fun D e1 h' F' N' hlt => ?_
  have hheap : ∀ p ∈ led0, h'.get? p.1 = some p.2 := fun p hp => (N' p (.tail _ (h0 p hp))).1
  obtain ⟨fs, t1, t2, t3⟩ := katTups_of hheap vs hk.has
  refine kat_kind (fs := fs) (T := Value.type "int") t1 (by omega) (fun v hv => ?_) (by decide) ?_
  · obtain ⟨i, t, rfl⟩ := t3 v hv
    exact Looks.of_pure rfl
  have hl := hk.1
  have O : AnsOk vs.length (fun i j => ltK (ks.getD i (0, [])) (ks.getD j (0, []))) := by
    refine ⟨fun i j k _ _ _ => ltK_ord.tr _ _ _, fun i j hi hj hne hf => ?_, fun i j _ _ => ltK_ord.asym⟩
    cases hc : ltK (ks.getD j (0, [])) (ks.getD i (0, [])) with
    | true => rfl
    | false =>
      have e := ltK_ord.tot _ _ hf hc
      rw [List.getD_eq_getElem?_getD, List.getD_eq_getElem?_getD, List.getElem?_eq_getElem (by omega), List.getElem?_eq_getElem (by omega)] at e
      exact absurd ((List.getElem_inj hnd).mp e) hne
  refine sort_ok O ?_ (by omega) ?_
  · intro i j C hi hj hC
    unfold kas_ask
    refine sort_keys ((hk.val hi).at hheap) ((hk.val hj).at hheap) ?_ hC
    show A.units + 1 + 1 + 1 < _
    omega
  · intro p hp ha
    have hs := hp.size
    have hlt' : ∀ i ∈ p.toList, i < vs.length := fun i hi => by have := hp.mem_iff.mp hi; simpa using this
    refine KasFin.intro F' N' (.head fun q hq => Nat.ne_of_lt (hlt q hq)) fun h'' c F'' N'' => ?_
    refine h h'' D _ (p.toList.map fun i => ks.getD i (0, [])) c F'' N'' hlt ⟨by simp, fun i hi => ?_⟩ ?_ ?_
    · have hi' : i < p.toList.length := by simpa using hi
      refine ⟨vs.getD (p.toList[i]) Value.none, by rw [List.getElem?_map, List.getElem?_eq_getElem hi']; rfl, ?_⟩
      rw [List.getElem_map]
      exact hk.val (hlt' _ (List.getElem_mem hi'))
    · have e := hp.map (fun i => ks.getD i ((0 : Int), ([] : List Int)))
      rw [hl, map_getD_range] at e
      exact e
    · rw [List.pairwise_map, List.pairwise_iff_getElem]
      intro i j hi hj hij
      have hi' : i < p.size := by simpa using hi
      have hj' : j < p.size := by simpa using hj
      have := ha i j hij (by omega)
      have e1 : p.getD i 0 = p.toList[i] := by simp [Array.getD, hi']
      have e2 : p.getD j 0 = p.toList[j] := by simp [Array.getD, hj']
      rw [e1, e2] at this
      exact this
/-- a strictly ordered list is told by its members -/
theorem sorted_one : ∀ {a b : List Key}, (a.Pairwise fun x y => ltK x y = true) → (b.Pairwise fun x y => ltK x y = true) → (∀ x, x ∈ a ↔ x ∈ b) → a = b
  | [], [], _, _, _ => rfl
  | [], y :: t, _, _, h => by have := (h y).mpr (.head _); cases this
  | x :: r, [], _, _, h => by have := (h x).mp (.head _); cases this
  | x :: r, y :: t, h1, h2, h => by
    obtain ⟨a1, a2⟩ := List.pairwise_cons.mp h1
    obtain ⟨b1, b2⟩ := List.pairwise_cons.mp h2
    have e : x = y := by
      rcases List.mem_cons.mp ((h x).mp (.head _)) with e | e
      · exact e
      · rcases List.mem_cons.mp ((h y).mpr (.head _)) with e' | e'
        · exact e'.symm
        · have := ltK_ord.asym (b1 x e)
          rw [a1 y e'] at this; cases this
    subst e
    rw [sorted_one a2 b2 fun z => ?_]
    constructor
    · intro hz
      rcases List.mem_cons.mp ((h z).mp (.tail _ hz)) with e | e
      · subst e; have := a1 z hz; rw [ltK_ord.irr] at this; cases this
      · exact e
    · intro hz
      rcases List.mem_cons.mp ((h z).mpr (.tail _ hz)) with e | e
      · subst e; have := b1 z hz; rw [ltK_ord.irr] at this; cases this
      · exact e
noncomputable def insK (k : Key) : List Key → List Key
  | [] => [k]
  | x :: r => if ltK k x then k :: x :: r else x :: insK k r
theorem insK_perm (k : Key) : ∀ l, (insK k l).Perm (k :: l)
  | [] => .refl _
  | x :: r => by
    unfold insK
    split
    · exact .refl _
    · exact ((insK_perm k r).cons x).trans (.swap k x r)
theorem insK_sorted (k : Key) : ∀ l, k ∉ l → (l.Pairwise fun x y => ltK x y = true) → ((insK k l).Pairwise fun x y => ltK x y = true)
  | [], _, _ => by simp [insK]
  | x :: r, hn, h => by
    obtain ⟨a1, a2⟩ := List.pairwise_cons.mp h
    unfold insK
    split
    · next hlt =>
      refine List.pairwise_cons.mpr ⟨fun y hy => ?_, h⟩
      rcases List.mem_cons.mp hy with rfl | hy
      · exact hlt
      · exact ltK_ord.tr _ _ _ hlt (a1 y hy)
    · next hlt =>
      have hxk : ltK x k = true := by
        cases hc : ltK x k with
        | true => rfl
        | false => exact absurd (ltK_ord.tot _ _ (by simpa using hlt) hc) fun e => hn (e ▸ .head _)
      refine List.pairwise_cons.mpr ⟨fun y hy => ?_, insK_sorted k r (fun hm => hn (.tail _ hm)) a2⟩
      rcases List.mem_cons.mp ((insK_perm k r).mem_iff.mp hy) with rfl | hy
      · exact hxk
      · exact a1 y hy
theorem sort_ex : ∀ l : List Key, l.Nodup → ∃ S : List Key, S.Perm l ∧ S.Pairwise fun x y => ltK x y = true
  | [], _ => ⟨[], .refl _, .nil⟩
  | k :: r, h => by
    obtain ⟨h1, h2⟩ := List.nodup_cons.mp h
    obtain ⟨S, p, q⟩ := sort_ex r h2
    exact ⟨insK k S, (insK_perm k S).trans (p.cons k), insK_sorted k S (fun hm => h1 (p.mem_iff.mp hm)) q⟩
theorem keys_nodup (ps : List Int) : (subsL.map (keyOf ps)).Nodup := by
  rw [List.Nodup, List.pairwise_map]
  exact subs_nodup.imp fun hne e => hne (congrArg Prod.snd e)
theorem sorted_ex (ps : List Int) : ∃ S, SortedP ps S := sort_ex _ (keys_nodup ps)
theorem SortedP.one {ps : List Int} {S S' : List Key} (h : SortedP ps S) (h' : SortedP ps S') : S = S' := sorted_one h.2 h'.2 fun x => by rw [h.1.mem_iff, h'.1.mem_iff]
section
variable {A : Around} {s : Shared} {led : Led}
theorem eq_item {v v' : Value} {k : Key} (hh : ∀ p ∈ led, s.heap.get? p.1 = some p.2) (h1 : ItemIn led v k) (h2 : ItemIn led v' k) (hu : A.units + 10 < cLine) : EqAt A s v v' true := by
  obtain ⟨P, v0, D, ts, n, rfl, a1, a2, a3, a4⟩ := h1
  obtain ⟨P', v0', D', ts', n', rfl, b1, b2, b3, b4⟩ := h2
  by_cases e : P = P'
  · subst e; exact EqAt.same _
  · refine EqAt.of_refs e ?_
    have r := RcAt.tuples (A := A) (s := s) (l := P) (b := P') (items := #[v0, .ref D]) (items2 := #[v0', .ref D']) (e := fun _ => true) ⟨_, hh _ a1, rfl, _, rfl⟩ ⟨_, hh _ b1, rfl, _, rfl⟩ (by omega) (fun j j1 j2 => by
      obtain rfl | rfl : j = 0 ∨ j = 1 := by simp at j1; omega
      · have := eq_keys (A := A.in1) (a2.at hh) (b2.at hh) (by show A.units + 1 + 1 < _; omega)
        rw [beq_self_eq_true] at this
        exact this
      · have := eq_lsts (A := A.in1) (s := s) (l := D) (b := D') ⟨ts, ⟨_, hh _ a3, rfl, _, rfl⟩, a4⟩ ⟨ts', ⟨_, hh _ b3, rfl, _, rfl⟩, b4⟩ (by show A.units + 1 < _; omega)
        rw [beq_self_eq_true] at this
        exact this)
    exact r
theorem rc_told {Tl Du : Addr} {tv dv : List Value} {nt nd : Nat} {r : List Key × Bool} (hh : ∀ p ∈ led, s.heap.get? p.1 = some p.2) (hT : s.heap.get? Tl = some (listOf tv.toArray nt)) (hD : s.heap.get? Du = some (listOf dv.toArray nd)) (h1 : ToldIn led tv r) (h2 : ToldIn led dv r) (hu : A.units + 20 < cLine) : RcAt A s (.ref Tl) (.ref Du) true := by
  obtain ⟨i1, a1, a2⟩ := h1
  obtain ⟨i2, b1, b2⟩ := h2
  have hlen : i1.length = i2.length := by rw [a1.1, b1.1]
  have hl2 : tv.length = dv.length := by
    rcases a2 with ⟨ra, rfl⟩ | ⟨ra, u, rfl⟩ <;> rcases b2 with ⟨rb, rfl⟩ | ⟨rb, u', rfl⟩
    · exact hlen
    · rw [ra] at rb; cases rb
    · rw [ra] at rb; cases rb
    · simp [hlen]
  have key : ∀ j (h1 : j < tv.length) (h2 : j < dv.length), EqAt A.in1 s tv[j] dv[j] true := by
    intro j j1 j2
    have items : ∀ (x1 : j < i1.length) (x2 : j < i2.length), EqAt A.in1 s i1[j] i2[j] true := by
      intro x1 x2
      obtain ⟨v, e, hv⟩ := a1.2 j (by rw [← a1.1]; exact x1)
      obtain ⟨v', e', hv'⟩ := b1.2 j (by rw [← b1.1]; exact x2)
      rw [List.getElem?_eq_getElem x1] at e
      rw [List.getElem?_eq_getElem x2] at e'
      cases e; cases e'
      exact eq_item hh hv hv' (by show A.units + 1 + 10 < _; omega)
    rcases a2 with ⟨ra, rfl⟩ | ⟨ra, u, rfl⟩ <;> rcases b2 with ⟨rb, rfl⟩ | ⟨rb, u', rfl⟩
    · exact items j1 j2
    · rw [ra] at rb; cases rb
    · rw [ra] at rb; cases rb
    · by_cases x : j < i1.length
      · rw [List.getElem_append_left x, List.getElem_append_left (by omega)]
        exact items x (by omega)
      · have : j = i1.length := by simp at j1; omega
        subst this
        have e1 : (i1 ++ [Value.str (Str.ofString "nothing left") u])[i1.length] = Value.str (Str.ofString "nothing left") u := by simp
        have e2 : (i2 ++ [Value.str (Str.ofString "nothing left") u'])[i1.length] = Value.str (Str.ofString "nothing left") u' := by simp [hlen]
        rw [e1, e2]
        have := EqAt.str_str (A := A.in1) (s := s) (Str.ofString "nothing left") u (Str.ofString "nothing left") u'
        rw [beq_self_eq_true] at this
        exact this
  have r := RcAt.lists (A := A) (s := s) (l := Tl) (b := Du) (items := tv.toArray) (items2 := dv.toArray) (e := fun _ => true) ⟨_, hT, rfl, _, rfl⟩ ⟨_, hD, rfl, _, rfl⟩ (by simp [hl2]) (by omega) (fun j j1 j2 => by
    simp only [List.getElem_toArray]
    exact key j (by simpa using j1) (by simpa using j2))
  have e : (List.range tv.toArray.size).all (fun _ => true) = true := by simp
  rw [e] at r
  exact r
end
/-- what lies off the old part of a ledger -/
theorem news_part {h₀ h : Heap} {L : Addr} {new led : Led} (N : News h₀ L h (new ++ led)) : ∃ new' : Led, (∀ p ∈ new', p ∈ new) ∧ (∀ p ∈ new ++ led, p ∈ new' ++ led) ∧ ∀ p ∈ new', ∀ q ∈ led, p.1 ≠ q.1 := by
  classical
  refine ⟨new.filter fun p => decide (∀ q ∈ led, p.1 ≠ q.1), fun p hp => (List.mem_filter.mp hp).1, fun p hp => ?_, fun p hp => by simpa using (List.mem_filter.mp hp).2⟩
  rcases List.mem_append.mp hp with hn | hl
  · by_cases c : ∀ q ∈ led, p.1 ≠ q.1
    · exact List.mem_append.mpr (.inl (List.mem_filter.mpr ⟨hn, by simpa using c⟩))
    · obtain ⟨q, c⟩ := Classical.not_forall.mp c
      obtain ⟨hq, c⟩ := Classical.not_forall.mp c
      have e := Classical.not_not.mp c
      have x1 := (N p hp).1
      have x2 := (N q (List.mem_append.mpr (.inr hq))).1
      rw [e, x2] at x1
      have : p = q := Prod.ext e (Option.some.inj x1).symm
      rw [this]; exact List.mem_append.mpr (.inr hq)
  · exact List.mem_append.mpr (.inr hl)
noncomputable def IsSeq (o : Obj) : Prop := ∃ x n, o.data = .seq x n
theorem KeyIn.seq {l l' : Led} {v : Value} {k : Key} (h : KeyIn l v k) (hs : ∀ p ∈ l, IsSeq p.2 → p ∈ l') : KeyIn l' v k := by
  obtain ⟨a, c, u, cv, e, h1, h2, h3⟩ := h
  exact ⟨a, c, u, cv, e, hs _ h1 ⟨_, _, rfl⟩, hs _ h2 ⟨_, _, rfl⟩, h3⟩
theorem ItemIn.seq {l l' : Led} {v : Value} {k : Key} (h : ItemIn l v k) (hs : ∀ p ∈ l, IsSeq p.2 → p ∈ l') : ItemIn l' v k := by
  obtain ⟨P, v0, D, ts, n, e, h1, h2, h3, h4⟩ := h
  exact ⟨P, v0, D, ts, n, e, hs _ h1 ⟨_, _, rfl⟩, h2.seq hs, hs _ h3 ⟨_, _, rfl⟩, h4⟩
theorem ItemsIn.seq {l l' : Led} {vs : List Value} {ks : List Key} (h : ItemsIn l vs ks) (hs : ∀ p ∈ l, IsSeq p.2 → p ∈ l') : ItemsIn l' vs ks :=
  ⟨h.1, fun i hi => by obtain ⟨v, e, hk⟩ := h.2 i hi; exact ⟨v, e, hk.seq hs⟩⟩
theorem ToldIn.seq {l l' : Led} {vs : List Value} {r : List Key × Bool} (h : ToldIn l vs r) (hs : ∀ p ∈ l, IsSeq p.2 → p ∈ l') : ToldIn l' vs r := by
  obtain ⟨its, h1, h2⟩ := h
  exact ⟨its, h1.seq hs, h2⟩
noncomputable def fStmt (k j : Nat) : Stmt := match nth (forBody (nth (fnBody (nth topS 22)) k)) j with | some st => st | none => .Pass default
theorem off_same {ads : List Addr} {l l' : Led} (h : Off ads l) (e : l'.map (·.1) = l.map (·.1)) : Off ads l' := fun p hp hm => by
  have h1 : p.1 ∈ l.map (·.1) := e ▸ List.mem_map.mpr ⟨p, hp, rfl⟩
  obtain ⟨q, hq, eq⟩ := List.mem_map.mp h1
  exact h q hq (eq ▸ hm)
/-- what is wanted behind a statement -/
noncomputable def NextTo (M : Model) (A : Around) (rest : List Stmt) (env : Env) (Q : Flow → Shared → Prop) (E : Value → Shared → Prop) : Flow → Shared → Prop := fun f s' => match f with | .next => wpAny M A (execs rest env) Q E s' | f => Q f s'
section
variable {M : Model} {A : Around} {rest : List Stmt} {env : Env} {Q : Flow → Shared → Prop} {E : Value → Shared → Prop} {s : Shared}
theorem stmts {st : Stmt} (h : wpAny M A (exec st env) (NextTo M A rest env Q E) E s) : wpAny M A (execs (st :: rest) env) Q E s := wpAny_execs_cons h
theorem nextTo (h : wpAny M A (execs rest env) Q E s) : NextTo M A rest env Q E .next s := h
theorem retTo {v : Value} (h : Q (.ret v) s) : NextTo M A rest env Q E (.ret v) s := h
end
theorem resP_hit {ok : Key → Bool} {S : List Key} {i : Nat} {k0 : Key} (hSi : S[i]? = some k0) (hno : ∀ k ∈ S.take i, ok k = false) (hok : ok k0 = true) : resP ok S = (S.take (i + 1), true) := by
  obtain ⟨hi, e0⟩ := List.getElem?_eq_some_iff.mp hSi
  have e1 : S = S.take i ++ k0 :: S.drop (i + 1) := by
    rw [← e0, ← List.drop_eq_getElem_cons hi, List.take_append_drop]
  rw [show resP ok S = resP ok (S.take i ++ k0 :: S.drop (i + 1)) by rw [← e1], resP_go _ _ _ hno, resP, if_pos hok, List.take_add_one, hSi]
  rfl
theorem resP_none {ok : Key → Bool} {S : List Key} (hno : ∀ k ∈ S, ok k = false) : resP ok S = (S, false) := by
  have := resP_go ok S [] hno
  rw [List.append_nil] at this
  rw [this]; show (S ++ [], false) = _; rw [List.append_nil]
theorem told_len (ch : List Int) : (toldP ch).length = 6 := by unfold toldP; rw [(runS_length _ _ _ _).1]; rfl
end Mine
end
section
open PySem PySem.W PyProof.Rows PySem.Calls
open PyProof.Rows.LCg (lst NsObj SrcAt)
open PySem.SeqAt
set_option Elab.async false
set_option maxRecDepth 100000
set_option maxHeartbeats 8000000
namespace Mine
theorem set_back_MLaw3 : True := by w_top off; trivial
theorem words_MLaw3 : True := by
  k_with_none
  k_with "m s0" => ((fail_if_success (with_reducible show WStep _ _ _ _ _ _)); (fail_if_success (with_reducible show wpAny _ _ (eval (Expr.ListComp _ _ _ _) _) _ _ _)); (fail_if_success (with_reducible show wpAny _ _ (exec (Stmt.For _ _ _ _ _) _) _ _ _)); (fail_if_success (with_reducible show wpAny _ _ (exec (Stmt.Assign _ (Expr.ListComp _ _ _ _) _ _) _) _ _ _)))
  k_with "m get" => ((repeat (first | assumption | exact get_eq | refine get_ne (by decide) ?_ | rfl)))
  k_with "eval Name" => (((with_reducible show wpAny _ _ (eval (Expr.Name _ _) (envOf _ _ _ _ _)) _ _ _); k_dflt (refine' ld ?z9k1 ?z9k2 ?_; (case z9k1 => k_asm); (case z9k2 => walk_at "m get"); k_whole)))
  k_with "m go" => ((repeat ((fail_if_success (with_reducible show WStep _ _ _ _ _ _)); first | walk1 | (dsimp only; walk1))))
  k_with "subscriptTail" => (((with_reducible show wpAny _ _ (subscriptTail _ _ (Value.ref _) (Value.int _ _)) _ _ _); (refine' item_h ?z9k1 ?z9k2 ?z9k3 ?z9k4 ?_; (case z9k1 => assumption); (case z9k2 => omega); (case z9k3 => omega); (case z9k4 => assumption); k_whole)))
  k_with "setItem ref int" => ((((with_reducible show wpAny _ _ (setItem (Value.ref _) (Value.int _ _) _) _ _ _); (refine' setItem_h ?z9k1 ?z9k2 ?z9k3 ?z9k4 ?z9k5 ?z9k6 ?_; (case z9k1 => assumption); (case z9k2 => assumption); (case z9k3 => assumption); (case z9k4 => omega); (case z9k5 => assumption); (case z9k6 => omega); k_whole); intro h' F' N'); revert h' F' N'; intro _ _ _))
  k_with "call builtin:len" => (((with_reducible show wpAny _ _ (call (Value.builtin _) [Value.ref _]) _ _ _); (refine' len_h ?z9k1 ?z9k2 ?_; (case z9k1 => assumption); (case z9k2 => first | assumption | (simp only [List.length_append, List.length_cons, List.length_nil]; omega)); k_whole)))
  k_with "call builtin:list.append" => ((((with_reducible show wpAny _ _ (call (Value.builtin _) [Value.ref _, _]) _ _ _); (refine' append_h ?z9k1 ?z9k2 ?z9k3 ?z9k4 ?_; (case z9k1 => assumption); (case z9k2 => assumption); (case z9k3 => assumption); (case z9k4 => omega); k_whole); intro h' F' N'); revert h' F' N'; intro _ _ _))
  k_with "call builtin:list.pop" => ((((with_reducible show wpAny _ _ (call (Value.builtin _) [Value.ref _]) _ _ _); (refine' pop_h ?z9k1 ?z9k2 ?z9k3 ?z9k4 ?_; (case z9k1 => assumption); (case z9k2 => assumption); (case z9k3 => assumption); (case z9k4 => omega); k_whole); intro h' F' N'); revert h' F' N'; intro _ _ _))
  k_with "eval Name" => (((with_reducible show wpAny _ _ (eval (Expr.Name _ _) (compEnvC _ _ _ _)) _ _ _); k_dflt (refine' PySem.W.LCgL.ld_own ?z9k1 ?z9k2 ?z9k3 ?z9k4 ?_; (case z9k1 => k_asm); (case z9k2 => exact List.Mem.head _); (case z9k3 => assumption); (case z9k4 => walk_at "m get"); k_whole)))
  k_with "m mem" => (first | assumption | exact List.Mem.head _ | exact List.mem_append.mpr (Or.inl (by assumption)) | exact List.mem_append.mpr (Or.inr (by assumption)) | (refine List.Mem.tail _ ?_; walk_at "m mem"))
  k_with "subscriptTail" => (((with_reducible show wpAny _ _ (subscriptTail _ _ (Value.ref _) (Value.int _ _)) _ _ _); (refine' item_m ?z9k1 ?z9k2 ?z9k3 ?z9k4 ?z9k5 ?_; (case z9k1 => assumption); (case z9k5 => assumption); (case z9k2 => walk_at "m mem"); (case z9k3 => omega); (case z9k4 => omega); k_whole)))
  k_with "m sub" => ((intro q9 hq9; simp only [List.cons_append, List.nil_append, List.append_assoc, List.mem_cons, List.mem_append, List.not_mem_nil, or_false, false_or] at hq9 ⊢; grind))
  k_with "truthy ref" => ((k_dflt (refine' truthy_D ?z9N ?z9d ?z9m ?z9s ?z9f ?_; (case z9N => assumption); (case z9d => assumption); (case z9m => walk_at "m mem"); (case z9s => assumption); (case z9f => first | assumption | decide | omega); k_whole)))
  k_with "truthy ref" => ((k_dflt (refine' truthy_L ?z9N ?z9m ?z9f ?_; (case z9N => assumption); (case z9m => walk_at "m mem"); (case z9f => first | assumption | omega); k_whole)))
  k_with "call type:set" => ((((with_reducible show wpAny _ _ (call (Value.type _) [Value.ref _]) _ _ _); k_dflt (refine' set_new_strsN ?z9F ?z9N ?z9m ?z9v ?z9n ?z9hh ?z9f ?_; (case z9F => assumption); (case z9N => assumption); (case z9m => walk_at "m mem"); (case z9v => assumption); (case z9n => assumption); (case z9hh => exact rfl); (case z9f => first | assumption | omega); k_whole); intro h' tk' D' o' F' N' hS' l1'; (try k_lt l1')); revert h' tk' D' o' F' N' hS' l1'; intro _ _ _ _ _ _ _ _))
  k_with "call type:set nil nil" => (((k_dflt (refine' set_new_0 ?z9F ?z9N ?_; (case z9F => assumption); (case z9N => assumption); k_whole); intro h' D' o' F' N' hS' l1'; (try k_lt l1')); revert h' D' o' F' N' hS' l1'; intro _ _ _ _ _ _ _))
  k_with "getItem ref str" => (((k_dflt (refine' getItem_D ?z9N ?z9d ?z9f ?z9m ?z9s ?z9l ?_; (case z9N => assumption); (case z9d => assumption); (case z9f => assumption); (case z9m => walk_at "m mem"); (case z9s => assumption); (case z9l => assumption); k_whole); intro v' hv'); revert v' hv'; intro _ _))
  k_with "compareOp In str ref" => ((k_dflt (refine' in_set ?z9N ?z9m ?z9d ?_; (case z9N => assumption); (case z9d => assumption); (case z9m => walk_at "m mem"); k_whole)))
  k_with "setItem ref str" => (((k_dflt (refine' setItem_K PyProof.V.same_str (strKind_is _ _ _ _) ?z9v ?z9F ?z9N ?z9U ?z9d ?z9f ?_ ?z9z; (case z9F => assumption); (case z9N => assumption); (case z9U => k_updF); (case z9d => assumption); (case z9f => assumption); (case z9z => (rw [sizeLine_eq]; omega)); (case z9v => k_flat)); intro h' o' F' N' hd' hf'; (try dsimp only at N')); revert h' o' F' N' hd' hf'; intro _ _ _ _ _ _))
  k_with "binaryOp Add str str" => (((refine PyProof.Rows.add_str (hsz := ?z9hsz) ?_); (case z9hsz => (have e1 : (Str.ofString ".").length = 1 := by decide); (have e2 : (Str.ofString "/").length = 1 := by decide); (have e3 : (Str.ofString "/.").length = 2 := by decide); rw [sizeLine_eq]; omega); intro _ _))
  k_with "eval Name" => (((with_reducible show wpAny _ _ (eval (Expr.Name _ _) (compEnvC _ _ _ _)) _ _ _); k_dflt (refine' PySem.W.LCgL.ld_own ?z9k1 ?z9k2 ?z9k3 ?z9k4 ?_; (case z9k1 => k_asm); (case z9k2 => walk_at "m mem"); (case z9k3 => assumption); (case z9k4 => walk_at "m get"); k_whole)))
  k_with "m on" => ((repeat' (walk_at "m s0"; (fail_if_success (with_reducible show wpAny _ _ (call (Value.ref _) _ _) _ _ _)); first | walk1 | (dsimp only; walk1) | (with_reducible refine ite_neg Bool.false_ne_true ?_) | (with_reducible refine ite_pos rfl ?_))))
  k_with "eval Name" => (((with_reducible show wpAny _ _ (eval (Expr.Name _ _) (envOfC _ _ _ _ _)) _ _ _); k_dflt (refine' nameX_L ?z9F ?z9v ?_ ?z9a ?z9b; (case z9F => k_asm); (case z9a => rfl); (case z9b => rfl); (case z9v => walk_at "m get"); k_whole)))
  k_with "m sl" => ((repeat' (walk_at "m s0"; (fail_if_success (with_reducible show wpAny _ _ (call (Value.ref _) _ _) _ _ _)); (fail_if_success (with_reducible show wpAny _ _ (compareOp _ (Value.ref _) (Value.ref _)) _ _ _)); (fail_if_success (with_reducible show wpAny _ _ (subscriptTail _ (PySem.Expr.Slice _ _ _ _) _ _) _ _ _)); first | walk1 | (dsimp only; walk1) | (with_reducible refine ite_neg Bool.false_ne_true ?_) | (with_reducible refine ite_pos rfl ?_))))
  k_with "callWith" => (first | with_reducible refine PyProof.Rows.callWith_method0 ?_ | with_reducible refine PyProof.Rows.callWith_builtin1 ?_ | with_reducible refine PyProof.Rows.callWith_method1 ?_)
  k_with "m cs" => ((repeat' (walk_at "m s0"; (fail_if_success (with_reducible show wpAny _ _ (call (Value.ref _) _ _) _ _ _)); (fail_if_success (with_reducible show wpAny _ _ (compareOp _ (Value.ref _) (Value.ref _)) _ _ _)); (fail_if_success (with_reducible show wpAny _ _ (subscriptTail _ _ _ _) _ _ _)); first | walk1 | (dsimp only; walk1) | (with_reducible refine ite_neg Bool.false_ne_true ?_) | (with_reducible refine ite_pos rfl ?_))))
  trivial
theorem law3 {w : World} {s : Shared} {g : Heap} {L fa : Addr} {cd : Value} {m mg mb : Str → Option Value} {mean : ExcName → Option Value} {p : Program} {loose : List Str}
 (X : (Mine.hd.heap_1 w.params).In g) (T : Top p loose mean mg mb g) (F : Fr g L s.heap m) {led : Led} {sc W : Addr} {sv : List Value} {ns : List Int} {oN oP oK oS : Obj} {vK : Option Value} (N : News g L s.heap ((W, listOf #[] 0) :: (L + 1 + 1 + 1 + 1, oN) :: (L + 1 + 1 + 1, oP) :: (L + 1 + 1, oK) :: (L + 1, oS) :: led)) (hS : oS.data = .cell (some (.ref sc))) (hK : oK.data = .cell vK) (hsc : g.IsList sc sv.toArray) (hi : IntsAre sv ns) (hl : ns.length ≤ 63)
 (hm : m (Str.ofString "wishes") = some (.ref W)) (hW : L + 1 + 1 + 1 + 1 < W) (hWl : ∀ p ∈ led, p.1 ≠ W) (hKl : ∀ p ∈ led, p.1 ≠ L + 1 + 1) {Q : Flow → Shared → Prop}
 (h : ∀ h' tk dr m' oK vK wv wi q, Fr g L h' m' → m' (Str.ofString "wishes") = some (.ref W) → (∀ y, y ≠ Str.ofString "wish" → y ≠ Str.ofString "changes" → m' y = m y) → News g L h' ((W, listOf (List.toArray wv) q) :: (L + 1 + 1 + 1 + 1, oN) :: (L + 1 + 1 + 1, oP) :: (L + 1 + 1, oK) :: (L + 1, oS) :: led) → oK.data = .cell vK → IntsAre wv wi → wi.length = 6 → Q .next { s with heap := h', toks := tk, drawn := dr }) :
 wpAny (model PySem.Challenge.rw_nq0047_02.row.prog w) (lAr L fa cd) (exec (lStmt 3) (lEnv L fa cd)) Q NoE s := by
  revert X
  k_fill
  intro X
  dsimp only [lAr, lStmt, lEnv, topS, PySem.Challenge.pw_nq0047_02, nth, fnBody, fnScope, whBody, List.drop]
  refine wpAny_For ?_
  walk_at "m go"
  rename_i lb hb Fb Nb l1
  generalize hitb : (#[Value.int 1 s.toks, Value.int 2 (s.toks + 1), Value.int 1 (s.toks + 1 + 1), Value.int 0 (s.toks + 1 + 1 + 1), Value.int 2 (s.toks + 1 + 1 + 1 + 1), Value.int 0 (s.toks + 1 + 1 + 1 + 1 + 1)] : Array Value) = itb at Nb
  have hsz : itb.size = 6 := by rw [← hitb]; rfl
  have hints : ∀ (i : Nat) (x : Value), itb[i]? = some x → ∃ b t, x = Value.int b t := by
    intro i x hx
    have h6 : i < 6 := by rw [← hsz]; exact (Array.getElem?_eq_some_iff.mp hx).1
    rw [← hitb] at hx
    obtain rfl | rfl | rfl | rfl | rfl | rfl : i = 0 ∨ i = 1 ∨ i = 2 ∨ i = 3 ∨ i = 4 ∨ i = 5 := by omega
    all_goals (cases hx; exact ⟨_, _, rfl⟩)
  refine enum_new Fb Nb (.inr ⟨_, .head _, rfl, _, rfl⟩) fun h1 e it own hne F1 N1 off1 ok1 => ?_
  refine self_enum _ _ _ ok1 N1 _ ?_
  refine for_walk (nextOk_enum rfl hne) (fun i m₁ nw => ∃ oK vK wv wi q, nw = (lb, listOf itb 0) :: (W, listOf (List.toArray wv) q) :: (L + 1 + 1 + 1 + 1, oN) :: (L + 1 + 1 + 1, oP) :: (L + 1 + 1, oK) :: (L + 1, oS) :: led ∧ oK.data = .cell vK ∧ IntsAre wv wi ∧ wi.length = i ∧ m₁ (Str.ofString "wishes") = some (.ref W) ∧ (∀ y, y ≠ Str.ofString "wish" → y ≠ Str.ofString "changes" → m₁ y = m y)) F1 N1 off1 ok1 ⟨oK, vK, [], [], 0, rfl, hK, .nil, rfl, hm, fun _ _ _ => rfl⟩ ?_ ?_ (fun _ _ q => q)
  · clear Fb Nb F1 N1 off1 ok1 hK
    rintro i v m₁ nw own' h2 tk2 dr2 ext hi6 ⟨Tt, t, x, hx, rfl, rfl⟩ ⟨oK, vK, wv, wi, q, rfl, hK, hwi, hwl, hm1, hmy⟩ off2 hext F2 N2 ok2
    obtain ⟨b9, t9, rfl⟩ := hints i x hx
    obtain ⟨oI, old, rfl, hIc, hId, _⟩ := ok2
    refine assign_pair rfl F2 N2 (.inr ⟨_, .head _, rfl, _, rfl⟩) fun h3 F3 N3 => ?_
    have kE : e ≠ L + 1 + 1 := fun q => off2 (L + 1 + 1, oK) (.tail _ (.tail _ (.tail _ (.tail _ (.head _))))) (q ▸ .head _)
    have kI : it ≠ L + 1 + 1 := fun q => off2 (L + 1 + 1, oK) (.tail _ (.tail _ (.tail _ (.tail _ (.head _))))) (q ▸ .tail _ (.head _))
    have wE : e ≠ W := fun q => off2 (W, _) (.tail _ (.head _)) (q ▸ .head _)
    have wI : it ≠ W := fun q => off2 (W, _) (.tail _ (.head _)) (q ▸ .tail _ (.head _))
    generalize hoE : enObj it (((i + 1 : Nat)) : Int) old = oE at N3
    replace N3 : News g L h3 ((lb, listOf itb 0) :: (e, oE) :: (it, oI) :: (W, listOf (List.toArray wv) q) :: (L + 1 + 1 + 1 + 1, oN) :: (L + 1 + 1 + 1, oP) :: (L + 1 + 1, oK) :: (L + 1, oS) :: led) := news_sub N3 (by walk_at "m sub")
    k_sweep
    replace hW : @LT.lt Nat _ (L + 1 + 1 + 1 + 1) W := hW
    walk1
    walk1
    walk1
    walk1
    refine comp_assign (h₀ := g) (L := L) ?_ rfl ?_ rfl ?_ ?_
    · with_unfolding_all rfl
    · decide
    · decide
    walk_at "m sl"
    rename_i h5 oK5 dK5 h6 F6 N6
    obtain ⟨osc, hosc, rsc⟩ := id hsc
    refine kmk_slice_ints F6 N6 ⟨osc, F6.keep _ _ hosc, rsc⟩ IsPart.none (IsPart.int _ _) hi (kmk_upto hi (by decide)) rfl ?_ (by with_unfolding_all rfl) (by kmk_pure) (by rw [List.size_toArray, hi.length, sizeLine_eq]; omega)
    intro Ds ws h7 F7 N7 l7 hI7 _ _
    k_sweep
    refine iter_listN (ax := Ds) F7 N7 (.head _) ?_
    intro h8 I8 own8 F8 N8 off8 ok8
    refine csrcG (nextOk_list rfl) self_list F8 N8 off8 ok8 (fun i ys => ∃ xs, IntsAre ys xs ∧ xs.length ≤ i) ?_ ?_ ⟨[], .nil, Nat.le_refl _⟩ (fun _ _ _ h => h.2) rfl rfl ?_ ?_
    · rw [List.size_toArray, hI7.length, List.length_take]; omega
    · rintro i ys ⟨xs, a, b⟩; rw [a.length]; exact b
    · rintro j v ys own C oC D mC h9 tk9 dr9 hj hP ⟨xs, hxs, hxl⟩ offc hCD hoC F9 N9
      k_sweep
      obtain ⟨u, rfl⟩ := IntsAre.int_at hI7 j v (by have := hP.1; rwa [List.getElem?_toArray] at this)
      refine wpAny_tests_one ?_
      walk_at "m on"
      · exact ⟨_, _, _, oC, _, rfl, by assumption, hoC, by assumption, _, hxs.append (.cons _ _ .nil), by rw [List.length_append]; simp only [List.length_cons, List.length_nil]; omega⟩
      · exact ⟨_, _, _, oC, _, rfl, by assumption, hoC, by assumption, xs, hxs, by omega⟩
    · rintro D C oCc mC h11 tk11 dr11 cs F11 hoC N11 hCD off11 ⟨xs, hxs, hxl⟩
      unfold FinS
      intro hne12 off12 F12 N12
      k_sweep
      refine wpAny_assign_Name ?_
      walk1
      rename_i h13 F13 N13
      refine ⟨_, _, _, _, rfl, F13, N13, ?_, ?_⟩
      · intro p hp
        rcases List.mem_cons.mp hp with rfl | hp
        · exact Ne.symm hne12
        · exact (off12 p hp).1
      clear F13 N13
      intro h14 F14 N14
      dsimp only
      have nd := fun p hp => (off12 p hp).2
      have hws : ws.toArray.size ≤ 63 := by rw [List.size_toArray, hI7.length, List.length_take]; omega
      have n1 := nd _ (.tail _ (.tail _ (.tail _ (.tail _ (.head _)))))
      replace N14 : News g L h14 ((D, lst cs) :: (lb, listOf itb 0) :: (e, oE) :: (it, oI) :: (W, listOf (List.toArray wv) q) :: (L + 1 + 1 + 1 + 1, oN) :: (L + 1 + 1 + 1, oP) :: (L + 1 + 1, oK5) :: (L + 1, oS) :: led) := news_sub N14 (by walk_at "m sub")
      walk_at "m cs"
      rename_i l' hx1 l1x D' ws' hx2 F0 N0 look l1y
      refine item_list_ints_negR (k := -1) (N0.isList (.head _)) look (by decide) (by simp only [List.length_append, List.length_cons, List.length_nil]; omega) (by decide) ?_
      intro t'
      generalize List.getD ([b9] ++ xs) _ _ = v9
      dsimp only
      walk_at "m on"
      rename_i h' F' N'
      have e9 : ∀ x, wv.toArray.push x = (wv ++ [x]).toArray := fun x => by simp
      rw [e9] at N'
      subst hoE
      refine ⟨h', tk, _, _, [(e, enObj it (((i + 1 : Nat)) : Int) old), (it, oI)], (lb, listOf itb 0) :: (W, listOf (List.toArray (wv ++ [Value.int v9 t'])) (q + 1)) :: (L + 1 + 1 + 1 + 1, oN) :: (L + 1 + 1 + 1, oP) :: (L + 1 + 1, oK5) :: (L + 1, oS) :: led, rfl, F', news_sub N' (by walk_at "m sub"), off_same off2 rfl, ⟨oI, old, rfl, hIc, hId, .inr ⟨_, .head _, rfl, _, rfl⟩⟩, oK5, _, _, wi ++ [v9], q + 1, rfl, dK5, hwi.append (.cons _ _ .nil), by simp [hwl], by walk_at "m get", ?_⟩
      intro y y1 y2
      simp only [if_neg y1, if_neg y2]
      exact hmy y y1 y2
  · clear Fb Nb F1 N1 off1 ok1 hK
    rintro m₁ nw h2 tk2 dr2 ⟨oK, vK, wv, wi, q, rfl, hK, hwi, hwl, hm1, hmy⟩ F2 N2
    rw [hsz] at hwl
    exact h _ _ _ m₁ oK vK wv wi q F2 hm1 hmy (fun p hp => N2 p (.tail _ hp)) hK hwi hwl
end Mine
end
section
open PySem PySem.W PyProof.Rows PySem.Calls
open PyProof.Rows.LCg (lst NsObj SrcAt)
open PySem.SeqAt
set_option Elab.async false
set_option maxRecDepth 100000
set_option maxHeartbeats 8000000
namespace Mine
theorem set_back_MLaw4 : True := by w_top off; trivial
theorem words_MLaw4 : True := by
  k_with_none
  k_with "m s0" => ((fail_if_success (with_reducible show WStep _ _ _ _ _ _)); (fail_if_success (with_reducible show wpAny _ _ (eval (Expr.ListComp _ _ _ _) _) _ _ _)); (fail_if_success (with_reducible show wpAny _ _ (exec (Stmt.For _ _ _ _ _) _) _ _ _)); (fail_if_success (with_reducible show wpAny _ _ (exec (Stmt.Assign _ (Expr.ListComp _ _ _ _) _ _) _) _ _ _)))
  k_with "m get" => ((repeat (first | assumption | exact get_eq | refine get_ne (by decide) ?_ | rfl)))
  k_with "eval Name" => (((with_reducible show wpAny _ _ (eval (Expr.Name _ _) (envOf _ _ _ _ _)) _ _ _); k_dflt (refine' ld ?z9k1 ?z9k2 ?_; (case z9k1 => k_asm); (case z9k2 => walk_at "m get"); k_whole)))
  k_with "subscriptTail" => (((with_reducible show wpAny _ _ (subscriptTail _ _ (Value.ref _) (Value.int _ _)) _ _ _); (refine' item_h ?z9k1 ?z9k2 ?z9k3 ?z9k4 ?_; (case z9k1 => assumption); (case z9k2 => omega); (case z9k3 => omega); (case z9k4 => assumption); k_whole)))
  k_with "setItem ref int" => ((((with_reducible show wpAny _ _ (setItem (Value.ref _) (Value.int _ _) _) _ _ _); (refine' setItem_h ?z9k1 ?z9k2 ?z9k3 ?z9k4 ?z9k5 ?z9k6 ?_; (case z9k1 => assumption); (case z9k2 => assumption); (case z9k3 => assumption); (case z9k4 => omega); (case z9k5 => assumption); (case z9k6 => omega); k_whole); intro h' F' N'); revert h' F' N'; intro _ _ _))
  k_with "call builtin:len" => (((with_reducible show wpAny _ _ (call (Value.builtin _) [Value.ref _]) _ _ _); (refine' len_h ?z9k1 ?z9k2 ?_; (case z9k1 => assumption); (case z9k2 => first | assumption | (simp only [List.length_append, List.length_cons, List.length_nil]; omega)); k_whole)))
  k_with "call builtin:list.append" => ((((with_reducible show wpAny _ _ (call (Value.builtin _) [Value.ref _, _]) _ _ _); (refine' append_h ?z9k1 ?z9k2 ?z9k3 ?z9k4 ?_; (case z9k1 => assumption); (case z9k2 => assumption); (case z9k3 => assumption); (case z9k4 => omega); k_whole); intro h' F' N'); revert h' F' N'; intro _ _ _))
  k_with "call builtin:list.pop" => ((((with_reducible show wpAny _ _ (call (Value.builtin _) [Value.ref _]) _ _ _); (refine' pop_h ?z9k1 ?z9k2 ?z9k3 ?z9k4 ?_; (case z9k1 => assumption); (case z9k2 => assumption); (case z9k3 => assumption); (case z9k4 => omega); k_whole); intro h' F' N'); revert h' F' N'; intro _ _ _))
  k_with "eval Name" => (((with_reducible show wpAny _ _ (eval (Expr.Name _ _) (compEnvC _ _ _ _)) _ _ _); k_dflt (refine' PySem.W.LCgL.ld_own ?z9k1 ?z9k2 ?z9k3 ?z9k4 ?_; (case z9k1 => k_asm); (case z9k2 => exact List.Mem.head _); (case z9k3 => assumption); (case z9k4 => walk_at "m get"); k_whole)))
  k_with "m mem" => (first | assumption | exact List.Mem.head _ | exact List.mem_append.mpr (Or.inl (by assumption)) | exact List.mem_append.mpr (Or.inr (by assumption)) | (refine List.Mem.tail _ ?_; walk_at "m mem"))
  k_with "subscriptTail" => (((with_reducible show wpAny _ _ (subscriptTail _ _ (Value.ref _) (Value.int _ _)) _ _ _); (refine' item_m ?z9k1 ?z9k2 ?z9k3 ?z9k4 ?z9k5 ?_; (case z9k1 => assumption); (case z9k5 => assumption); (case z9k2 => walk_at "m mem"); (case z9k3 => omega); (case z9k4 => omega); k_whole)))
  k_with "truthy ref" => ((k_dflt (refine' truthy_D ?z9N ?z9d ?z9m ?z9s ?z9f ?_; (case z9N => assumption); (case z9d => assumption); (case z9m => walk_at "m mem"); (case z9s => assumption); (case z9f => first | assumption | decide | omega); k_whole)))
  k_with "truthy ref" => ((k_dflt (refine' truthy_L ?z9N ?z9m ?z9f ?_; (case z9N => assumption); (case z9m => walk_at "m mem"); (case z9f => first | assumption | omega); k_whole)))
  k_with "call type:set" => ((((with_reducible show wpAny _ _ (call (Value.type _) [Value.ref _]) _ _ _); k_dflt (refine' set_new_strsN ?z9F ?z9N ?z9m ?z9v ?z9n ?z9hh ?z9f ?_; (case z9F => assumption); (case z9N => assumption); (case z9m => walk_at "m mem"); (case z9v => assumption); (case z9n => assumption); (case z9hh => exact rfl); (case z9f => first | assumption | omega); k_whole); intro h' tk' D' o' F' N' hS' l1'; (try k_lt l1')); revert h' tk' D' o' F' N' hS' l1'; intro _ _ _ _ _ _ _ _))
  k_with "call type:set nil nil" => (((k_dflt (refine' set_new_0 ?z9F ?z9N ?_; (case z9F => assumption); (case z9N => assumption); k_whole); intro h' D' o' F' N' hS' l1'; (try k_lt l1')); revert h' D' o' F' N' hS' l1'; intro _ _ _ _ _ _ _))
  k_with "getItem ref str" => (((k_dflt (refine' getItem_D ?z9N ?z9d ?z9f ?z9m ?z9s ?z9l ?_; (case z9N => assumption); (case z9d => assumption); (case z9f => assumption); (case z9m => walk_at "m mem"); (case z9s => assumption); (case z9l => assumption); k_whole); intro v' hv'); revert v' hv'; intro _ _))
  k_with "compareOp In str ref" => ((k_dflt (refine' in_set ?z9N ?z9m ?z9d ?_; (case z9N => assumption); (case z9d => assumption); (case z9m => walk_at "m mem"); k_whole)))
  k_with "setItem ref str" => (((k_dflt (refine' setItem_K PyProof.V.same_str (strKind_is _ _ _ _) ?z9v ?z9F ?z9N ?z9U ?z9d ?z9f ?_ ?z9z; (case z9F => assumption); (case z9N => assumption); (case z9U => k_updF); (case z9d => assumption); (case z9f => assumption); (case z9z => (rw [sizeLine_eq]; omega)); (case z9v => k_flat)); intro h' o' F' N' hd' hf'; (try dsimp only at N')); revert h' o' F' N' hd' hf'; intro _ _ _ _ _ _))
  k_with "binaryOp Add str str" => (((refine PyProof.Rows.add_str (hsz := ?z9hsz) ?_); (case z9hsz => (have e1 : (Str.ofString ".").length = 1 := by decide); (have e2 : (Str.ofString "/").length = 1 := by decide); (have e3 : (Str.ofString "/.").length = 2 := by decide); rw [sizeLine_eq]; omega); intro _ _))
  k_with "eval Name" => (((with_reducible show wpAny _ _ (eval (Expr.Name _ _) (compEnvC _ _ _ _)) _ _ _); k_dflt (refine' PySem.W.LCgL.ld_own ?z9k1 ?z9k2 ?z9k3 ?z9k4 ?_; (case z9k1 => k_asm); (case z9k2 => walk_at "m mem"); (case z9k3 => assumption); (case z9k4 => walk_at "m get"); k_whole)))
  k_with "m on" => ((repeat' (walk_at "m s0"; (fail_if_success (with_reducible show wpAny _ _ (call (Value.ref _) _ _) _ _ _)); first | walk1 | (dsimp only; walk1) | (with_reducible refine ite_neg Bool.false_ne_true ?_) | (with_reducible refine ite_pos rfl ?_))))
  k_with "eval Name" => (((with_reducible show wpAny _ _ (eval (Expr.Name _ _) (envOfC _ _ _ _ _)) _ _ _); k_dflt (refine' nameX_L ?z9F ?z9v ?_ ?z9a ?z9b; (case z9F => k_asm); (case z9a => rfl); (case z9b => rfl); (case z9v => walk_at "m get"); k_whole)))
  k_with "callWith" => (first | with_reducible refine PyProof.Rows.callWith_method0 ?_ | with_reducible refine PyProof.Rows.callWith_builtin1 ?_ | with_reducible refine PyProof.Rows.callWith_method1 ?_)
  trivial
theorem law4 {w : World} {s : Shared} {g : Heap} {L fa : Addr} {cd : Value} {m mg mb : Str → Option Value} {mean : ExcName → Option Value} {p : Program} {loose : List Str}
 (X : (Mine.hd.heap_1 w.params).In g) (T : Top p loose mean mg mb g) (F : Fr g L s.heap m) {rest : Led} {pa ca wa : Addr} {pv cvs wv : List Value} {qp qc qw : Nat} {ps wi : List Int} {S : List Key} {oN oP oK oS : Obj} {vN vK vS : Option Value} (N : News g L s.heap ((L + 1 + 1 + 1 + 1, oN) :: (L + 1 + 1 + 1, oP) :: (L + 1 + 1, oK) :: (L + 1, oS) :: rest)) (hN : oN.data = .cell vN) (hP : oP.data = .cell (some (.ref pa))) (hK : oK.data = .cell vK) (hS' : oS.data = .cell vS)
 (hm1 : m (Str.ofString "calls") = some (.ref ca)) (hm2 : m (Str.ofString "wishes") = some (.ref wa))
 (hpa : (pa, listOf pv.toArray qp) ∈ rest) (hca : (ca, listOf cvs.toArray qc) ∈ rest) (hwa : (wa, listOf wv.toArray qw) ∈ rest) (hcs : CallsOk cvs rest callsL) (hp : IntsAre pv ps) (hpl : ps.length = 4) (hpos : PosP ps) (hw : IntsAre wv wi) (hwl : wi.length = 6) (hS : SortedP ps S) {Q : Flow → Shared → Prop}
 (h : ∀ h' tk dr Tl tv nt new, Fr g L h' (fun y => if y = Str.ofString "told" then some (.ref Tl) else m y) → News g L h' ((L + 1 + 1 + 1 + 1, oN) :: (L + 1 + 1 + 1, oP) :: (L + 1 + 1, oK) :: (L + 1, oS) :: (new ++ rest)) → (Tl, listOf (List.toArray tv) nt) ∈ new ++ rest → ToldIn (new ++ rest) tv (resP (okK wi) S) → (∀ p ∈ new, p.1 ≠ L + 1 + 1 + 1 + 1) → Q .next { s with heap := h', toks := tk, drawn := dr }) :
 wpAny (model PySem.Challenge.rw_nq0047_02.row.prog w) (lAr L fa cd) (exec (lStmt 4) (lEnv L fa cd)) Q NoE s := by
  revert X
  k_fill
  intro X
  dsimp only [lAr, lStmt, lEnv, topS, PySem.Challenge.pw_nq0047_02, nth, fnBody, fnScope, whBody, List.drop]
  walk_at "m on"
  refine wpAny_call ?_
  refine search_K (pa := pa) (ca := ca) (wa := wa) (below_caller _) F X N T rfl rfl rfl (.tail _ (.tail _ (.tail _ (.tail _ hpa)))) (.tail _ (.tail _ (.tail _ (.tail _ hca)))) (.tail _ (.tail _ (.tail _ (.tail _ hwa)))) ⟨hcs.1, fun i hi => ?_⟩ hp hpl hpos hw hwl hS ?_ ?_ rfl ?_
  · obtain ⟨a, pv, u, x1, x2, x3⟩ := hcs.2 i hi
    exact ⟨a, pv, u, x1, .tail _ (.tail _ (.tail _ (.tail _ x2))), x3⟩
  · k_room
  · show 4 + 3 < 190; decide
  intro h1 tk1 dr1 Tl tv nt new F1 N1 hT
  obtain ⟨new', n1, n2, n3⟩ := news_part (new := (Tl, listOf (List.toArray tv) nt) :: new) N1
  have sq : ∀ p ∈ (Tl, listOf (List.toArray tv) nt) :: (new ++ (L + 1 + 1 + 1 + 1, oN) :: (L + 1 + 1 + 1, oP) :: (L + 1 + 1, oK) :: (L + 1, oS) :: rest), IsSeq p.2 → p ∈ new' ++ rest := by
    rintro p hp ⟨x, k, hx⟩
    rcases List.mem_append.mp (n2 p hp) with q | q
    · exact List.mem_append.mpr (.inl q)
    · simp only [List.mem_cons] at q
      rcases q with rfl | rfl | rfl | rfl | q
      · rw [hN] at hx; cases hx
      · rw [hP] at hx; cases hx
      · rw [hK] at hx; cases hx
      · rw [hS'] at hx; cases hx
      · exact List.mem_append.mpr (.inr q)
  have hTl : (Tl, listOf (List.toArray tv) nt) ∈ new' ++ rest := sq _ (.head _) ⟨_, _, rfl⟩
  have hT' : ToldIn (new' ++ rest) tv (resP (okK wi) S) := hT.seq fun p hp => sq p (.tail _ hp)
  have N2 : News g L h1 ((L + 1 + 1 + 1 + 1, oN) :: (L + 1 + 1 + 1, oP) :: (L + 1 + 1, oK) :: (L + 1, oS) :: (new' ++ rest)) := by
    refine news_sub N1 fun p hp => ?_
    simp only [List.mem_cons, List.mem_append] at hp ⊢
    rcases hp with hp | hp | hp | hp | hp | hp
    · exact .inr (.inr (.inl hp))
    · exact .inr (.inr (.inr (.inl hp)))
    · exact .inr (.inr (.inr (.inr (.inl hp))))
    · exact .inr (.inr (.inr (.inr (.inr (.inl hp)))))
    · have := n1 p hp
      rcases List.mem_cons.mp this with e | e
      · exact .inl e
      · exact .inr (.inl e)
    · exact .inr (.inr (.inr (.inr (.inr (.inr hp)))))
  clear N N1 F sq
  walk1
  (try dsimp only)
  refine h _ _ _ Tl tv nt new' (by assumption) (by assumption) hTl hT' ?_
  exact fun p hp => n3 p hp _ (.head _)
end Mine
end
section
open PySem PySem.W PyProof.Rows PySem.Calls
open PyProof.Rows.LCg (lst NsObj SrcAt)
open PySem.SeqAt
set_option Elab.async false
set_option maxRecDepth 100000
set_option maxHeartbeats 8000000
namespace Mine
theorem set_back_MLaw6a : True := by w_top off; trivial
theorem words_MLaw6a : True := by
  k_with_none
  k_with "m s0" => ((fail_if_success (with_reducible show WStep _ _ _ _ _ _)); (fail_if_success (with_reducible show wpAny _ _ (eval (Expr.ListComp _ _ _ _) _) _ _ _)); (fail_if_success (with_reducible show wpAny _ _ (exec (Stmt.For _ _ _ _ _) _) _ _ _)); (fail_if_success (with_reducible show wpAny _ _ (exec (Stmt.Assign _ (Expr.ListComp _ _ _ _) _ _) _) _ _ _)))
  k_with "m get" => ((repeat (first | assumption | exact get_eq | refine get_ne (by decide) ?_ | rfl)))
  k_with "eval Name" => (((with_reducible show wpAny _ _ (eval (Expr.Name _ _) (envOf _ _ _ _ _)) _ _ _); k_dflt (refine' ld ?z9k1 ?z9k2 ?_; (case z9k1 => k_asm); (case z9k2 => walk_at "m get"); k_whole)))
  k_with "subscriptTail" => (((with_reducible show wpAny _ _ (subscriptTail _ _ (Value.ref _) (Value.int _ _)) _ _ _); (refine' item_h ?z9k1 ?z9k2 ?z9k3 ?z9k4 ?_; (case z9k1 => assumption); (case z9k2 => omega); (case z9k3 => omega); (case z9k4 => assumption); k_whole)))
  k_with "setItem ref int" => ((((with_reducible show wpAny _ _ (setItem (Value.ref _) (Value.int _ _) _) _ _ _); (refine' setItem_h ?z9k1 ?z9k2 ?z9k3 ?z9k4 ?z9k5 ?z9k6 ?_; (case z9k1 => assumption); (case z9k2 => assumption); (case z9k3 => assumption); (case z9k4 => omega); (case z9k5 => assumption); (case z9k6 => omega); k_whole); intro h' F' N'); revert h' F' N'; intro _ _ _))
  k_with "call builtin:len" => (((with_reducible show wpAny _ _ (call (Value.builtin _) [Value.ref _]) _ _ _); (refine' len_h ?z9k1 ?z9k2 ?_; (case z9k1 => assumption); (case z9k2 => first | assumption | (simp only [List.length_append, List.length_cons, List.length_nil]; omega)); k_whole)))
  k_with "call builtin:list.append" => ((((with_reducible show wpAny _ _ (call (Value.builtin _) [Value.ref _, _]) _ _ _); (refine' append_h ?z9k1 ?z9k2 ?z9k3 ?z9k4 ?_; (case z9k1 => assumption); (case z9k2 => assumption); (case z9k3 => assumption); (case z9k4 => omega); k_whole); intro h' F' N'); revert h' F' N'; intro _ _ _))
  k_with "call builtin:list.pop" => ((((with_reducible show wpAny _ _ (call (Value.builtin _) [Value.ref _]) _ _ _); (refine' pop_h ?z9k1 ?z9k2 ?z9k3 ?z9k4 ?_; (case z9k1 => assumption); (case z9k2 => assumption); (case z9k3 => assumption); (case z9k4 => omega); k_whole); intro h' F' N'); revert h' F' N'; intro _ _ _))
  k_with "eval Name" => (((with_reducible show wpAny _ _ (eval (Expr.Name _ _) (compEnvC _ _ _ _)) _ _ _); k_dflt (refine' PySem.W.LCgL.ld_own ?z9k1 ?z9k2 ?z9k3 ?z9k4 ?_; (case z9k1 => k_asm); (case z9k2 => exact List.Mem.head _); (case z9k3 => assumption); (case z9k4 => walk_at "m get"); k_whole)))
  k_with "m mem" => (first | assumption | exact List.Mem.head _ | exact List.mem_append.mpr (Or.inl (by assumption)) | exact List.mem_append.mpr (Or.inr (by assumption)) | (refine List.Mem.tail _ ?_; walk_at "m mem"))
  k_with "subscriptTail" => (((with_reducible show wpAny _ _ (subscriptTail _ _ (Value.ref _) (Value.int _ _)) _ _ _); (refine' item_m ?z9k1 ?z9k2 ?z9k3 ?z9k4 ?z9k5 ?_; (case z9k1 => assumption); (case z9k5 => assumption); (case z9k2 => walk_at "m mem"); (case z9k3 => omega); (case z9k4 => omega); k_whole)))
  k_with "m sub" => ((intro q9 hq9; simp only [List.cons_append, List.nil_append, List.append_assoc, List.mem_cons, List.mem_append, List.not_mem_nil, or_false, false_or] at hq9 ⊢; grind))
  k_with "truthy ref" => ((k_dflt (refine' truthy_D ?z9N ?z9d ?z9m ?z9s ?z9f ?_; (case z9N => assumption); (case z9d => assumption); (case z9m => walk_at "m mem"); (case z9s => assumption); (case z9f => first | assumption | decide | omega); k_whole)))
  k_with "truthy ref" => ((k_dflt (refine' truthy_L ?z9N ?z9m ?z9f ?_; (case z9N => assumption); (case z9m => walk_at "m mem"); (case z9f => first | assumption | omega); k_whole)))
  k_with "call type:set" => ((((with_reducible show wpAny _ _ (call (Value.type _) [Value.ref _]) _ _ _); k_dflt (refine' set_new_strsN ?z9F ?z9N ?z9m ?z9v ?z9n ?z9hh ?z9f ?_; (case z9F => assumption); (case z9N => assumption); (case z9m => walk_at "m mem"); (case z9v => assumption); (case z9n => assumption); (case z9hh => exact rfl); (case z9f => first | assumption | omega); k_whole); intro h' tk' D' o' F' N' hS' l1'; (try k_lt l1')); revert h' tk' D' o' F' N' hS' l1'; intro _ _ _ _ _ _ _ _))
  k_with "call type:set nil nil" => (((k_dflt (refine' set_new_0 ?z9F ?z9N ?_; (case z9F => assumption); (case z9N => assumption); k_whole); intro h' D' o' F' N' hS' l1'; (try k_lt l1')); revert h' D' o' F' N' hS' l1'; intro _ _ _ _ _ _ _))
  k_with "getItem ref str" => (((k_dflt (refine' getItem_D ?z9N ?z9d ?z9f ?z9m ?z9s ?z9l ?_; (case z9N => assumption); (case z9d => assumption); (case z9f => assumption); (case z9m => walk_at "m mem"); (case z9s => assumption); (case z9l => assumption); k_whole); intro v' hv'); revert v' hv'; intro _ _))
  k_with "compareOp In str ref" => ((k_dflt (refine' in_set ?z9N ?z9m ?z9d ?_; (case z9N => assumption); (case z9d => assumption); (case z9m => walk_at "m mem"); k_whole)))
  k_with "setItem ref str" => (((k_dflt (refine' setItem_K PyProof.V.same_str (strKind_is _ _ _ _) ?z9v ?z9F ?z9N ?z9U ?z9d ?z9f ?_ ?z9z; (case z9F => assumption); (case z9N => assumption); (case z9U => k_updF); (case z9d => assumption); (case z9f => assumption); (case z9z => (rw [sizeLine_eq]; omega)); (case z9v => k_flat)); intro h' o' F' N' hd' hf'; (try dsimp only at N')); revert h' o' F' N' hd' hf'; intro _ _ _ _ _ _))
  k_with "binaryOp Add str str" => (((refine PyProof.Rows.add_str (hsz := ?z9hsz) ?_); (case z9hsz => (have e1 : (Str.ofString ".").length = 1 := by decide); (have e2 : (Str.ofString "/").length = 1 := by decide); (have e3 : (Str.ofString "/.").length = 2 := by decide); rw [sizeLine_eq]; omega); intro _ _))
  k_with "eval Name" => (((with_reducible show wpAny _ _ (eval (Expr.Name _ _) (compEnvC _ _ _ _)) _ _ _); k_dflt (refine' PySem.W.LCgL.ld_own ?z9k1 ?z9k2 ?z9k3 ?z9k4 ?_; (case z9k1 => k_asm); (case z9k2 => walk_at "m mem"); (case z9k3 => assumption); (case z9k4 => walk_at "m get"); k_whole)))
  k_with "m on" => ((repeat' (walk_at "m s0"; (fail_if_success (with_reducible show wpAny _ _ (call (Value.ref _) _ _) _ _ _)); first | walk1 | (dsimp only; walk1) | (with_reducible refine ite_neg Bool.false_ne_true ?_) | (with_reducible refine ite_pos rfl ?_))))
  k_with "eval Name" => (((with_reducible show wpAny _ _ (eval (Expr.Name _ _) (envOfC _ _ _ _ _)) _ _ _); k_dflt (refine' nameX_L ?z9F ?z9v ?_ ?z9a ?z9b; (case z9F => k_asm); (case z9a => rfl); (case z9b => rfl); (case z9v => walk_at "m get"); k_whole)))
  k_with "callWith" => (first | with_reducible refine PyProof.Rows.callWith_method0 ?_ | with_reducible refine PyProof.Rows.callWith_builtin1 ?_ | with_reducible refine PyProof.Rows.callWith_method1 ?_)
  trivial
theorem law6a {w : World} {s : Shared} {g : Heap} {L fa : Addr} {cd : Value} {m mg mb : Str → Option Value} {mean : ExcName → Option Value} {p : Program} {loose : List Str}
 (X : (Mine.hd.heap_1 w.params).In g) (T : Top p loose mean mg mb g) (F : Fr g L s.heap m) {led : Led} {oN : Obj} {n : Nat} {u : Tok} (N : News g L s.heap ((L + 1 + 1 + 1 + 1, oN) :: led)) (hN : oN.data = .cell (some (.int n u))) (hn : n < 16) {Q : Flow → Shared → Prop}
 (h : ∀ h' tk dr c cv, Fr g L h' (fun y => if y = Str.ofString "chosen" then some (.ref c) else m y) → News g L h' ((c, tupOf cv) :: (L + 1 + 1 + 1 + 1, oN) :: led) → (∀ p ∈ (L + 1 + 1 + 1 + 1, oN) :: led, p.1 < c) → IntsAre cv (chOf n) → Q .next { s with heap := h', toks := tk, drawn := dr }) :
 wpAny (model PySem.Challenge.rw_nq0047_02.row.prog w) (lAr L fa cd) (exec (fStmt 6 0) (lEnv L fa cd)) Q NoE s := by
  revert X
  k_fill
  intro X
  dsimp only [lAr, fStmt, lEnv, topS, PySem.Challenge.pw_nq0047_02, nth, fnBody, forBody, fnScope, whBody, List.drop]
  walk_at "m on"
  refine comp_eval (h₀ := g) (L := L) rfl ?_ rfl ?_ ?_
  · decide
  · decide
  walk_at "m on"
  rename_i hrg Frg Nrg _
  refine iter_range (n := 4) Frg Nrg hrg (by decide +kernel) (by decide +kernel) ?_
  intro h12 I12 own12 F12 N12 off12 ok12
  k_sweep
  refine csrc1 (nextOk_range rfl) self_range F12 N12 off12 ok12 (fun i ys => IntsAre ys ((List.range i).filterMap fun (k : Nat) => if n / 2 ^ k % 2 = 1 then some (k : Int) else none)) (by decide) ?_ .nil (fun _ _ _ h => h.2) rfl rfl ?_ ?_
  · intro i ys h; rw [h.length]; exact Nat.le_trans (List.length_filterMap_le _ _) (by simp)
  · rintro i v ys own C oC D mC h2 tk2 dr2 hi4 ⟨⟨t3, rfl⟩, _⟩ hJ offc hCD hoC F3 N3
    have hp2 : (2 : Int) ^ ((0 : Int) + (i : Nat)).toNat = ((2 ^ i : Nat) : Int) := by rw [show ((0 : Int) + (i : Nat)).toNat = i by omega]; exact (Int.natCast_pow 2 i).symm
    have hval : Int.fmod (Int.fdiv ((n : Nat) : Int) ((2 : Int) ^ ((0 : Int) + (i : Nat)).toNat)) 2 = ((n / 2 ^ i % 2 : Nat) : Int) := by
      rw [hp2, Int.fdiv_eq_ediv_of_nonneg _ (Int.natCast_nonneg _), Int.fmod_eq_emod_of_nonneg _ (by decide)]
      rfl
    have step : (List.range (i + 1)).filterMap (fun (k : Nat) => if n / 2 ^ k % 2 = 1 then some (k : Int) else none) = (List.range i).filterMap (fun (k : Nat) => if n / 2 ^ k % 2 = 1 then some (k : Int) else none) ++ (if n / 2 ^ i % 2 = 1 then [(i : Int)] else []) := by
      rw [List.range_succ, List.filterMap_append]
      congr 1
      by_cases hc : n / 2 ^ i % 2 = 1 <;> simp [hc]
    k_sweep
    refine wpAny_tests_one ?_
    walk_at "m on"
    · rename_i hb
      rw [hval] at hb
      have hb' : n / 2 ^ i % 2 = 1 := by omega
      refine ⟨_, _, _, oC, _, rfl, F3, hoC, N3, ?_⟩
      rw [step, if_pos hb', show (0 : Int) + (i : Nat) = i by omega]
      exact hJ.append (.cons _ _ .nil)
    · rename_i hb
      rw [hval] at hb
      have hb' : ¬ n / 2 ^ i % 2 = 1 := by omega
      refine ⟨_, _, _, oC, _, rfl, F3, hoC, N3, ?_⟩
      rw [step, if_neg hb', List.append_nil]
      exact hJ
  · intro D h9 tk9 dr9 ys F9 N9 off9 hJ
    have hl4 : ys.length ≤ 4 := by rw [hJ.length]; exact Nat.le_trans (List.length_filterMap_le _ _) (by simp)
    walk1
    refine kde_tupleOf (items := ys.toArray) F9 N9 (N9.isList (.head _)) (by rw [List.size_toArray]; omega) rfl ?_
    intro c h10 F10 N10 l10
    replace N10 : News g L h10 ((c, tupOf ys) :: (L + 1 + 1 + 1 + 1, oN) :: led) := news_sub N10 (by walk_at "m sub")
    have l11 : ∀ p ∈ (L + 1 + 1 + 1 + 1, oN) :: led, p.1 < c := fun p hp => l10 p (.tail _ hp)
    k_sweep
    walk1
    (try dsimp only)
    exact h _ _ _ c ys (by assumption) (by assumption) l11 hJ
end Mine
end
section
open PySem PySem.W PyProof.Rows PySem.Calls
open PyProof.Rows.LCg (lst NsObj SrcAt)
open PySem.SeqAt
set_option Elab.async false
set_option maxRecDepth 100000
set_option maxHeartbeats 8000000
namespace Mine
theorem set_back_MLaw6b : True := by w_top off; trivial
theorem words_MLaw6b : True := by
  k_with_none
  k_with "m s0" => ((fail_if_success (with_reducible show WStep _ _ _ _ _ _)); (fail_if_success (with_reducible show wpAny _ _ (eval (Expr.ListComp _ _ _ _) _) _ _ _)); (fail_if_success (with_reducible show wpAny _ _ (exec (Stmt.For _ _ _ _ _) _) _ _ _)); (fail_if_success (with_reducible show wpAny _ _ (exec (Stmt.Assign _ (Expr.ListComp _ _ _ _) _ _) _) _ _ _)))
  k_with "m get" => ((repeat (first | assumption | exact get_eq | refine get_ne (by decide) ?_ | rfl)))
  k_with "eval Name" => (((with_reducible show wpAny _ _ (eval (Expr.Name _ _) (envOf _ _ _ _ _)) _ _ _); k_dflt (refine' ld ?z9k1 ?z9k2 ?_; (case z9k1 => k_asm); (case z9k2 => walk_at "m get"); k_whole)))
  k_with "subscriptTail" => (((with_reducible show wpAny _ _ (subscriptTail _ _ (Value.ref _) (Value.int _ _)) _ _ _); (refine' item_h ?z9k1 ?z9k2 ?z9k3 ?z9k4 ?_; (case z9k1 => assumption); (case z9k2 => omega); (case z9k3 => omega); (case z9k4 => assumption); k_whole)))
  k_with "setItem ref int" => ((((with_reducible show wpAny _ _ (setItem (Value.ref _) (Value.int _ _) _) _ _ _); (refine' setItem_h ?z9k1 ?z9k2 ?z9k3 ?z9k4 ?z9k5 ?z9k6 ?_; (case z9k1 => assumption); (case z9k2 => assumption); (case z9k3 => assumption); (case z9k4 => omega); (case z9k5 => assumption); (case z9k6 => omega); k_whole); intro h' F' N'); revert h' F' N'; intro _ _ _))
  k_with "call builtin:len" => (((with_reducible show wpAny _ _ (call (Value.builtin _) [Value.ref _]) _ _ _); (refine' len_h ?z9k1 ?z9k2 ?_; (case z9k1 => assumption); (case z9k2 => first | assumption | (simp only [List.length_append, List.length_cons, List.length_nil]; omega)); k_whole)))
  k_with "call builtin:list.append" => ((((with_reducible show wpAny _ _ (call (Value.builtin _) [Value.ref _, _]) _ _ _); (refine' append_h ?z9k1 ?z9k2 ?z9k3 ?z9k4 ?_; (case z9k1 => assumption); (case z9k2 => assumption); (case z9k3 => assumption); (case z9k4 => omega); k_whole); intro h' F' N'); revert h' F' N'; intro _ _ _))
  k_with "call builtin:list.pop" => ((((with_reducible show wpAny _ _ (call (Value.builtin _) [Value.ref _]) _ _ _); (refine' pop_h ?z9k1 ?z9k2 ?z9k3 ?z9k4 ?_; (case z9k1 => assumption); (case z9k2 => assumption); (case z9k3 => assumption); (case z9k4 => omega); k_whole); intro h' F' N'); revert h' F' N'; intro _ _ _))
  k_with "eval Name" => (((with_reducible show wpAny _ _ (eval (Expr.Name _ _) (compEnvC _ _ _ _)) _ _ _); k_dflt (refine' PySem.W.LCgL.ld_own ?z9k1 ?z9k2 ?z9k3 ?z9k4 ?_; (case z9k1 => k_asm); (case z9k2 => exact List.Mem.head _); (case z9k3 => assumption); (case z9k4 => walk_at "m get"); k_whole)))
  k_with "m mem" => (first | assumption | exact List.Mem.head _ | exact List.mem_append.mpr (Or.inl (by assumption)) | exact List.mem_append.mpr (Or.inr (by assumption)) | (refine List.Mem.tail _ ?_; walk_at "m mem"))
  k_with "subscriptTail" => (((with_reducible show wpAny _ _ (subscriptTail _ _ (Value.ref _) (Value.int _ _)) _ _ _); (refine' item_m ?z9k1 ?z9k2 ?z9k3 ?z9k4 ?z9k5 ?_; (case z9k1 => assumption); (case z9k5 => assumption); (case z9k2 => walk_at "m mem"); (case z9k3 => omega); (case z9k4 => omega); k_whole)))
  k_with "truthy ref" => ((k_dflt (refine' truthy_D ?z9N ?z9d ?z9m ?z9s ?z9f ?_; (case z9N => assumption); (case z9d => assumption); (case z9m => walk_at "m mem"); (case z9s => assumption); (case z9f => first | assumption | decide | omega); k_whole)))
  k_with "truthy ref" => ((k_dflt (refine' truthy_L ?z9N ?z9m ?z9f ?_; (case z9N => assumption); (case z9m => walk_at "m mem"); (case z9f => first | assumption | omega); k_whole)))
  k_with "call type:set" => ((((with_reducible show wpAny _ _ (call (Value.type _) [Value.ref _]) _ _ _); k_dflt (refine' set_new_strsN ?z9F ?z9N ?z9m ?z9v ?z9n ?z9hh ?z9f ?_; (case z9F => assumption); (case z9N => assumption); (case z9m => walk_at "m mem"); (case z9v => assumption); (case z9n => assumption); (case z9hh => exact rfl); (case z9f => first | assumption | omega); k_whole); intro h' tk' D' o' F' N' hS' l1'; (try k_lt l1')); revert h' tk' D' o' F' N' hS' l1'; intro _ _ _ _ _ _ _ _))
  k_with "call type:set nil nil" => (((k_dflt (refine' set_new_0 ?z9F ?z9N ?_; (case z9F => assumption); (case z9N => assumption); k_whole); intro h' D' o' F' N' hS' l1'; (try k_lt l1')); revert h' D' o' F' N' hS' l1'; intro _ _ _ _ _ _ _))
  k_with "getItem ref str" => (((k_dflt (refine' getItem_D ?z9N ?z9d ?z9f ?z9m ?z9s ?z9l ?_; (case z9N => assumption); (case z9d => assumption); (case z9f => assumption); (case z9m => walk_at "m mem"); (case z9s => assumption); (case z9l => assumption); k_whole); intro v' hv'); revert v' hv'; intro _ _))
  k_with "compareOp In str ref" => ((k_dflt (refine' in_set ?z9N ?z9m ?z9d ?_; (case z9N => assumption); (case z9d => assumption); (case z9m => walk_at "m mem"); k_whole)))
  k_with "setItem ref str" => (((k_dflt (refine' setItem_K PyProof.V.same_str (strKind_is _ _ _ _) ?z9v ?z9F ?z9N ?z9U ?z9d ?z9f ?_ ?z9z; (case z9F => assumption); (case z9N => assumption); (case z9U => k_updF); (case z9d => assumption); (case z9f => assumption); (case z9z => (rw [sizeLine_eq]; omega)); (case z9v => k_flat)); intro h' o' F' N' hd' hf'; (try dsimp only at N')); revert h' o' F' N' hd' hf'; intro _ _ _ _ _ _))
  k_with "binaryOp Add str str" => (((refine PyProof.Rows.add_str (hsz := ?z9hsz) ?_); (case z9hsz => (have e1 : (Str.ofString ".").length = 1 := by decide); (have e2 : (Str.ofString "/").length = 1 := by decide); (have e3 : (Str.ofString "/.").length = 2 := by decide); rw [sizeLine_eq]; omega); intro _ _))
  k_with "eval Name" => (((with_reducible show wpAny _ _ (eval (Expr.Name _ _) (compEnvC _ _ _ _)) _ _ _); k_dflt (refine' PySem.W.LCgL.ld_own ?z9k1 ?z9k2 ?z9k3 ?z9k4 ?_; (case z9k1 => k_asm); (case z9k2 => walk_at "m mem"); (case z9k3 => assumption); (case z9k4 => walk_at "m get"); k_whole)))
  k_with "m on" => ((repeat' (walk_at "m s0"; (fail_if_success (with_reducible show wpAny _ _ (call (Value.ref _) _ _) _ _ _)); first | walk1 | (dsimp only; walk1) | (with_reducible refine ite_neg Bool.false_ne_true ?_) | (with_reducible refine ite_pos rfl ?_))))
  k_with "eval Name" => (((with_reducible show wpAny _ _ (eval (Expr.Name _ _) (envOfC _ _ _ _ _)) _ _ _); k_dflt (refine' nameX_L ?z9F ?z9v ?_ ?z9a ?z9b; (case z9F => k_asm); (case z9a => rfl); (case z9b => rfl); (case z9v => walk_at "m get"); k_whole)))
  k_with "callWith" => (first | with_reducible refine PyProof.Rows.callWith_method0 ?_ | with_reducible refine PyProof.Rows.callWith_builtin1 ?_ | with_reducible refine PyProof.Rows.callWith_method1 ?_)
  k_with "call builtin:sum" => (((k_here; k_dflt (refine' sum_m ?z9F ?z9N ?z9m ?z9v ?_; (case z9F => assumption); (case z9N => assumption); (case z9v => assumption); (case z9m => exact List.Mem.head _)); intro h' tk' t' F' N'); revert h' tk' t' F' N'; intro _ _ _ _ _))
  trivial
theorem getD_get {l : List Int} {k : Nat} (h : k < l.length) : l[k]? = some (l.getD k 0) := by rw [List.getD_eq_getElem?_getD, List.getElem?_eq_getElem h]; rfl
theorem law6b {w : World} {s : Shared} {g : Heap} {L fa : Addr} {cd : Value} {m mg mb : Str → Option Value} {mean : ExcName → Option Value} {p : Program} {loose : List Str}
 (X : (Mine.hd.heap_1 w.params).In g) (T : Top p loose mean mg mb g) (F : Fr g L s.heap m) {rest : Led} {oP : Obj} {Pr pa c : Addr} {pv rv cv : List Value} {ps ch : List Int} {q qp : Nat} (N : News g L s.heap ((Pr, listOf rv.toArray q) :: (L + 1 + 1 + 1, oP) :: rest)) (hP : oP.data = .cell (some (.ref pa))) (hpa : (pa, listOf pv.toArray qp) ∈ rest) (hp : IntsAre pv ps) (hpl : ps.length = 4)
 (hc : (c, tupOf cv) ∈ rest) (hi : IntsAre cv ch) (hs : ch ∈ subsL) (hm1 : m (Str.ofString "chosen") = some (.ref c)) (hm2 : m (Str.ofString "pairs") = some (.ref Pr)) (hr : rv.length < 100) (hPr : ∀ p ∈ (L + 1 + 1 + 1, oP) :: rest, p.1 ≠ Pr) {Q : Flow → Shared → Prop}
 (h : ∀ h' tk dr a u, Fr g L h' m → News g L h' ((a, tupOf [.int (priceOf ps ch) u, .ref c]) :: (Pr, listOf (List.toArray (rv ++ [.ref a])) (q + 1)) :: (L + 1 + 1 + 1, oP) :: rest) → (∀ p ∈ (Pr, listOf rv.toArray q) :: (L + 1 + 1 + 1, oP) :: rest, p.1 < a) → Q .next { s with heap := h', toks := tk, drawn := dr }) :
 wpAny (model PySem.Challenge.rw_nq0047_02.row.prog w) (lAr L fa cd) (exec (fStmt 6 1) (lEnv L fa cd)) Q NoE s := by
  revert X
  k_fill
  intro X
  dsimp only [lAr, fStmt, lEnv, topS, PySem.Challenge.pw_nq0047_02, nth, fnBody, forBody, fnScope, whBody, List.drop]
  obtain ⟨f1, f2, f3⟩ := subs_facts ch hs
  walk_at "m on"
  refine comp_eval (h₀ := g) (L := L) rfl ?_ rfl ?_ ?_
  · decide
  · decide
  walk_at "m on"
  refine iter_tupleN F N (.tail _ (.tail _ hc)) ?_
  intro h12 I12 own12 F12 N12 off12 ok12
  k_sweep
  refine csrc1 (nextOk_tuple rfl) self_tuple F12 N12 off12 ok12 (fun i ys => IntsAre ys ((ch.take i).map fun k => ps.getD k.toNat 0)) ?_ ?_ .nil (fun _ _ _ h => h.2) rfl rfl ?_ ?_
  · rw [List.size_toArray, hi.length]; omega
  · intro i ys h; rw [h.length, List.length_map, List.length_take]; omega
  · rintro i v ys own C oC D mC h2 tk2 dr2 hi4 hPv hJ offc hCD hoC F3 N3
    have hv := hPv.1
    k_sweep
    rw [List.size_toArray, hi.length] at hi4
    obtain ⟨t3, rfl⟩ := hi.int_at i v (by simpa using hv)
    refine wpAny_pure ?_
    with_reducible refine ite_pos rfl ?_
    have e : ch.getD i 0 = ch[i] := by simp [hi4]
    have hk := f1 (ch.getD i 0) (by rw [e]; exact List.getElem_mem hi4)
    obtain ⟨tp, htp⟩ := hp.get (ch.getD i 0).toNat (ps.getD (ch.getD i 0).toNat 0) (getD_get (by omega))
    walk_at "m on"
    refine ⟨_, _, _, oC, _, rfl, F3, hoC, N3, ?_⟩
    rw [List.take_add_one, List.getElem?_eq_getElem hi4, List.map_append, ← e]
    exact hJ.append (.cons _ _ .nil)
  · intro D h9 tk9 dr9 ys F9 N9 off9 hJ
    rw [List.size_toArray, hi.length, List.take_length] at hJ
    replace hJ : IntsAre ys (ch.map fun k => ps.getD k.toNat 0) := hJ
    k_sweep
    walk_at "m on"
    rename_i h10 tk10 t10 A10 h11 F11 N11 l11
    have lA : ∀ p ∈ (Pr, listOf rv.toArray q) :: (L + 1 + 1 + 1, oP) :: rest, p.1 < A10 := by
      intro p hp
      simp only [List.mem_cons] at hp
      rcases hp with rfl | rfl | hp
      · exact l11.2.1
      · exact l11.2.2.1
      · exact kst_ltOf l11.2.2.2 p hp
    have N12 : News g L h11 ((Pr, listOf rv.toArray q) :: (A10, tupOf [.int (priceOf ps ch) t10, .ref c]) :: (L + 1 + 1 + 1, oP) :: rest) := by
      refine news_sub N11 fun p hp => ?_
      simp only [List.mem_cons] at hp
      rcases hp with rfl | rfl | rfl | hp
      · exact .tail _ (.tail _ (.head _))
      · exact .head _
      · exact .tail _ (.tail _ (.tail _ (.head _)))
      · exact .tail _ (.tail _ (.tail _ (.tail _ hp)))
    refine append_h F11 N12 ?_ (by omega) ?_
    · intro p hp
      rcases List.mem_cons.mp hp with rfl | hp
      · exact Nat.ne_of_gt l11.2.1
      · exact hPr p hp
    intro h13 F13 N13
    refine h _ _ _ A10 t10 F13 (news_sub N13 fun p hp => ?_) lA
    simp only [List.mem_cons] at hp ⊢
    rcases hp with hp | hp | hp | hp
    · exact .inr (.inl hp)
    · exact .inl hp
    · exact .inr (.inr (.inl hp))
    · exact .inr (.inr (.inr hp))
end Mine
end
section
open PySem PySem.W PyProof.Rows PySem.Calls
open PyProof.Rows.LCg (lst NsObj SrcAt)
open PySem.SeqAt
set_option Elab.async false
set_option maxRecDepth 100000
set_option maxHeartbeats 8000000
namespace Mine
theorem set_back_MLaw6 : True := by w_top off; trivial
theorem words_MLaw6 : True := by
  k_with_none
  k_with "m get" => ((repeat (first | assumption | exact get_eq | refine get_ne (by decide) ?_ | rfl)))
  k_with "eval Name" => (((with_reducible show wpAny _ _ (eval (Expr.Name _ _) (envOf _ _ _ _ _)) _ _ _); k_dflt (refine' ld ?z9k1 ?z9k2 ?_; (case z9k1 => k_asm); (case z9k2 => walk_at "m get"); k_whole)))
  k_with "subscriptTail" => (((with_reducible show wpAny _ _ (subscriptTail _ _ (Value.ref _) (Value.int _ _)) _ _ _); (refine' item_h ?z9k1 ?z9k2 ?z9k3 ?z9k4 ?_; (case z9k1 => assumption); (case z9k2 => omega); (case z9k3 => omega); (case z9k4 => assumption); k_whole)))
  k_with "setItem ref int" => ((((with_reducible show wpAny _ _ (setItem (Value.ref _) (Value.int _ _) _) _ _ _); (refine' setItem_h ?z9k1 ?z9k2 ?z9k3 ?z9k4 ?z9k5 ?z9k6 ?_; (case z9k1 => assumption); (case z9k2 => assumption); (case z9k3 => assumption); (case z9k4 => omega); (case z9k5 => assumption); (case z9k6 => omega); k_whole); intro h' F' N'); revert h' F' N'; intro _ _ _))
  k_with "call builtin:len" => (((with_reducible show wpAny _ _ (call (Value.builtin _) [Value.ref _]) _ _ _); (refine' len_h ?z9k1 ?z9k2 ?_; (case z9k1 => assumption); (case z9k2 => first | assumption | (simp only [List.length_append, List.length_cons, List.length_nil]; omega)); k_whole)))
  k_with "call builtin:list.append" => ((((with_reducible show wpAny _ _ (call (Value.builtin _) [Value.ref _, _]) _ _ _); (refine' append_h ?z9k1 ?z9k2 ?z9k3 ?z9k4 ?_; (case z9k1 => assumption); (case z9k2 => assumption); (case z9k3 => assumption); (case z9k4 => omega); k_whole); intro h' F' N'); revert h' F' N'; intro _ _ _))
  k_with "call builtin:list.pop" => ((((with_reducible show wpAny _ _ (call (Value.builtin _) [Value.ref _]) _ _ _); (refine' pop_h ?z9k1 ?z9k2 ?z9k3 ?z9k4 ?_; (case z9k1 => assumption); (case z9k2 => assumption); (case z9k3 => assumption); (case z9k4 => omega); k_whole); intro h' F' N'); revert h' F' N'; intro _ _ _))
  k_with "eval Name" => (((with_reducible show wpAny _ _ (eval (Expr.Name _ _) (compEnvC _ _ _ _)) _ _ _); k_dflt (refine' PySem.W.LCgL.ld_own ?z9k1 ?z9k2 ?z9k3 ?z9k4 ?_; (case z9k1 => k_asm); (case z9k2 => exact List.Mem.head _); (case z9k3 => assumption); (case z9k4 => walk_at "m get"); k_whole)))
  k_with "m mem" => (first | assumption | exact List.Mem.head _ | exact List.mem_append.mpr (Or.inl (by assumption)) | exact List.mem_append.mpr (Or.inr (by assumption)) | (refine List.Mem.tail _ ?_; walk_at "m mem"))
  k_with "subscriptTail" => (((with_reducible show wpAny _ _ (subscriptTail _ _ (Value.ref _) (Value.int _ _)) _ _ _); (refine' item_m ?z9k1 ?z9k2 ?z9k3 ?z9k4 ?z9k5 ?_; (case z9k1 => assumption); (case z9k5 => assumption); (case z9k2 => walk_at "m mem"); (case z9k3 => omega); (case z9k4 => omega); k_whole)))
  k_with "m sub" => ((intro q9 hq9; simp only [List.cons_append, List.nil_append, List.append_assoc, List.mem_cons, List.mem_append, List.not_mem_nil, or_false, false_or] at hq9 ⊢; grind))
  k_with "truthy ref" => ((k_dflt (refine' truthy_D ?z9N ?z9d ?z9m ?z9s ?z9f ?_; (case z9N => assumption); (case z9d => assumption); (case z9m => walk_at "m mem"); (case z9s => assumption); (case z9f => first | assumption | decide | omega); k_whole)))
  k_with "truthy ref" => ((k_dflt (refine' truthy_L ?z9N ?z9m ?z9f ?_; (case z9N => assumption); (case z9m => walk_at "m mem"); (case z9f => first | assumption | omega); k_whole)))
  k_with "call type:set" => ((((with_reducible show wpAny _ _ (call (Value.type _) [Value.ref _]) _ _ _); k_dflt (refine' set_new_strsN ?z9F ?z9N ?z9m ?z9v ?z9n ?z9hh ?z9f ?_; (case z9F => assumption); (case z9N => assumption); (case z9m => walk_at "m mem"); (case z9v => assumption); (case z9n => assumption); (case z9hh => exact rfl); (case z9f => first | assumption | omega); k_whole); intro h' tk' D' o' F' N' hS' l1'; (try k_lt l1')); revert h' tk' D' o' F' N' hS' l1'; intro _ _ _ _ _ _ _ _))
  k_with "call type:set nil nil" => (((k_dflt (refine' set_new_0 ?z9F ?z9N ?_; (case z9F => assumption); (case z9N => assumption); k_whole); intro h' D' o' F' N' hS' l1'; (try k_lt l1')); revert h' D' o' F' N' hS' l1'; intro _ _ _ _ _ _ _))
  k_with "getItem ref str" => (((k_dflt (refine' getItem_D ?z9N ?z9d ?z9f ?z9m ?z9s ?z9l ?_; (case z9N => assumption); (case z9d => assumption); (case z9f => assumption); (case z9m => walk_at "m mem"); (case z9s => assumption); (case z9l => assumption); k_whole); intro v' hv'); revert v' hv'; intro _ _))
  k_with "compareOp In str ref" => ((k_dflt (refine' in_set ?z9N ?z9m ?z9d ?_; (case z9N => assumption); (case z9d => assumption); (case z9m => walk_at "m mem"); k_whole)))
  k_with "setItem ref str" => (((k_dflt (refine' setItem_K PyProof.V.same_str (strKind_is _ _ _ _) ?z9v ?z9F ?z9N ?z9U ?z9d ?z9f ?_ ?z9z; (case z9F => assumption); (case z9N => assumption); (case z9U => k_updF); (case z9d => assumption); (case z9f => assumption); (case z9z => (rw [sizeLine_eq]; omega)); (case z9v => k_flat)); intro h' o' F' N' hd' hf'; (try dsimp only at N')); revert h' o' F' N' hd' hf'; intro _ _ _ _ _ _))
  k_with "binaryOp Add str str" => (((refine PyProof.Rows.add_str (hsz := ?z9hsz) ?_); (case z9hsz => (have e1 : (Str.ofString ".").length = 1 := by decide); (have e2 : (Str.ofString "/").length = 1 := by decide); (have e3 : (Str.ofString "/.").length = 2 := by decide); rw [sizeLine_eq]; omega); intro _ _))
  k_with "eval Name" => (((with_reducible show wpAny _ _ (eval (Expr.Name _ _) (compEnvC _ _ _ _)) _ _ _); k_dflt (refine' PySem.W.LCgL.ld_own ?z9k1 ?z9k2 ?z9k3 ?z9k4 ?_; (case z9k1 => k_asm); (case z9k2 => walk_at "m mem"); (case z9k3 => assumption); (case z9k4 => walk_at "m get"); k_whole)))
  k_with "eval Name" => (((with_reducible show wpAny _ _ (eval (Expr.Name _ _) (envOfC _ _ _ _ _)) _ _ _); k_dflt (refine' nameX_L ?z9F ?z9v ?_ ?z9a ?z9b; (case z9F => k_asm); (case z9a => rfl); (case z9b => rfl); (case z9v => walk_at "m get"); k_whole)))
  k_with "callWith" => (first | with_reducible refine PyProof.Rows.callWith_method0 ?_ | with_reducible refine PyProof.Rows.callWith_builtin1 ?_ | with_reducible refine PyProof.Rows.callWith_method1 ?_)
  k_with "m it" => ((repeat ((fail_if_success (with_reducible show wpAny _ _ (pyIter _) _ _ _)); first | walk1 | (dsimp only; walk1))))
  trivial
theorem law6 {w : World} {s : Shared} {g : Heap} {L fa : Addr} {cd : Value} {m mg mb : Str → Option Value} {mean : ExcName → Option Value} {p : Program} {loose : List Str}
 (X : (Mine.hd.heap_1 w.params).In g) (T : Top p loose mean mg mb g) (F : Fr g L s.heap m) {rest : Led} {pa Pr : Addr} {pv : List Value} {qp : Nat} {ps : List Int} {oN oP oK oS : Obj} {vN : Option Value} (N : News g L s.heap ((Pr, listOf #[] 0) :: (L + 1 + 1 + 1 + 1, oN) :: (L + 1 + 1 + 1, oP) :: (L + 1 + 1, oK) :: (L + 1, oS) :: rest)) (hN : oN.data = .cell vN) (hP : oP.data = .cell (some (.ref pa)))
 (hpa : (pa, listOf pv.toArray qp) ∈ rest) (hp : IntsAre pv ps) (hpl : ps.length = 4) (hm : m (Str.ofString "pairs") = some (.ref Pr)) (hPr : ∀ p ∈ (L + 1 + 1 + 1 + 1, oN) :: (L + 1 + 1 + 1, oP) :: (L + 1 + 1, oK) :: (L + 1, oS) :: rest, p.1 < Pr) (hNr : ∀ p ∈ rest, p.1 ≠ L + 1 + 1 + 1 + 1) {Q : Flow → Shared → Prop}
 (h : ∀ h' tk dr m' oN rv q new, Fr g L h' m' → (∀ y, y ≠ Str.ofString "chosen" → m' y = m y) → News g L h' ((Pr, listOf (List.toArray rv) q) :: (L + 1 + 1 + 1 + 1, oN) :: (L + 1 + 1 + 1, oP) :: (L + 1 + 1, oK) :: (L + 1, oS) :: (new ++ rest)) → KeysIn (new ++ rest) rv (subsL.map (keyOf ps)) → Q .next { s with heap := h', toks := tk, drawn := dr }) :
 wpAny (model PySem.Challenge.rw_nq0047_02.row.prog w) (lAr L fa cd) (exec (lStmt 6) (lEnv L fa cd)) Q NoE s := by
  have X0 := X
  revert X
  k_fill
  intro X
  dsimp only [lAr, lStmt, lEnv, topS, PySem.Challenge.pw_nq0047_02, nth, fnBody, fnScope, whBody, List.drop]
  refine wpAny_For ?_
  walk_at "m it"
  rename_i hrg Frg Nrg _
  refine iter_range (n := 16) Frg Nrg hrg (by decide +kernel) (by decide +kernel) ?_
  intro h12 I12 own12 F12 N12 off12 ok12
  refine for_walk (nextOk_range rfl) (fun i m₁ nw => ∃ oN vN rv q new, nw = (Pr, listOf (List.toArray rv) q) :: (L + 1 + 1 + 1 + 1, oN) :: (L + 1 + 1 + 1, oP) :: (L + 1 + 1, oK) :: (L + 1, oS) :: (new ++ rest) ∧ oN.data = .cell vN ∧ KeysIn (new ++ rest) rv ((List.range i).map fun n => keyOf ps (chOf n)) ∧ (∀ p ∈ new, p.1 ≠ Pr ∧ p.1 ≠ L + 1 + 1 + 1 + 1) ∧ ∀ y, y ≠ Str.ofString "chosen" → m₁ y = m y) F12 N12 off12 ok12 ⟨oN, vN, [], 0, [], rfl, hN, ⟨rfl, fun i hi => absurd hi (by simp)⟩, (fun p hp => nomatch hp), fun _ _ => rfl⟩ ?_ ?_ (fun _ _ q => q)
  · rintro i v m₁ nw own' h2 tk2 dr2 ext hi ⟨⟨t, rfl⟩, rfl⟩ ⟨oN, vN, rv, q, new, rfl, hN, hk, hne, hmy⟩ off2 hext F2 N2 ok2
    have nI : ∀ p ∈ (Pr, listOf (List.toArray rv) q) :: (L + 1 + 1 + 1 + 1, oN) :: (L + 1 + 1 + 1, oP) :: (L + 1 + 1, oK) :: (L + 1, oS) :: (new ++ rest), p.1 ≠ I12 := fun p hp e => off2 p hp (e ▸ .head _)
    unfold ROk at ok2
    generalize hoI : ({ cls := .type "range_iterator", dict := none, data := .fields #[rawInt ((0 : Int) + ((i + 1 : Nat))), rawInt (((16 : Nat) : Int) - ((i + 1 : Nat))), rawInt 1], slots := #[] } : Obj) = oI at ok2
    subst ok2
    have bagN : ∀ p ∈ new ++ rest, p.1 ≠ L + 1 + 1 + 1 + 1 := fun p hp => (List.mem_append.mp hp).elim (fun x => (hne p x).2) (hNr p)
    have bagP : ∀ p ∈ new ++ rest, p.1 ≠ Pr := fun p hp => (List.mem_append.mp hp).elim (fun x => (hne p x).1) fun x => Nat.ne_of_lt (hPr p (.tail _ (.tail _ (.tail _ (.tail _ x)))))
    have hpa' : (pa, listOf pv.toArray qp) ∈ new ++ rest := List.mem_append.mpr (.inr hpa)
    have nI4 : I12 ≠ L + 1 + 1 + 1 + 1 := (nI (L + 1 + 1 + 1 + 1, oN) (.tail _ (.head _))).symm
    have nP4 : Pr ≠ L + 1 + 1 + 1 + 1 := Nat.ne_of_gt (hPr (L + 1 + 1 + 1 + 1, _) (.head _))
    replace N2 : News g L h2 ((L + 1 + 1 + 1 + 1, oN) :: (Pr, listOf (List.toArray rv) q) :: (I12, oI) :: (L + 1 + 1 + 1, oP) :: (L + 1 + 1, oK) :: (L + 1, oS) :: (new ++ rest)) := news_sub N2 (by walk_at "m sub")
    have c1 : m₁ (Str.ofString "pairs") = some (.ref Pr) := (hmy _ (by decide)).trans hm
    have hrl : rv.length < 100 := by rw [hk.1, List.length_map, List.length_range]; omega
    generalize hbag : new ++ rest = bag at N2 bagN bagP hpa'
    refine wpAny_assign_Name ?_
    walk1
    rename_i h3 oN3 F3 N3 dN3
    rw [Int.zero_add] at dN3
    refine stmts (law6a (n := i) X0 T F3 N3 dN3 (by omega) ?_)
    intro h4 tk4 dr4 c cv F4 N4 lt4 hcv
    refine nextTo ?_
    have N4' : News g L h4 ((Pr, listOf (List.toArray rv) q) :: (L + 1 + 1 + 1, oP) :: ((c, tupOf cv) :: (L + 1 + 1 + 1 + 1, oN3) :: (I12, oI) :: (L + 1 + 1, oK) :: (L + 1, oS) :: bag)) := news_sub N4 (by walk_at "m sub")
    have nePr : ∀ p ∈ (L + 1 + 1 + 1, oP) :: ((c, tupOf cv) :: (L + 1 + 1 + 1 + 1, oN3) :: (I12, oI) :: (L + 1 + 1, oK) :: (L + 1, oS) :: bag), p.1 ≠ Pr := by
      intro p hp
      simp only [List.mem_cons] at hp
      rcases hp with rfl | rfl | rfl | rfl | rfl | rfl | hp
      · exact Nat.ne_of_lt (hPr (L + 1 + 1 + 1, oP) (.tail _ (.head _)))
      · exact Nat.ne_of_gt (lt4 (Pr, _) (.tail _ (.head _)))
      · exact nP4.symm
      · exact (nI (Pr, _) (.head _)).symm
      · exact Nat.ne_of_lt (hPr (L + 1 + 1, oK) (.tail _ (.tail _ (.head _))))
      · exact Nat.ne_of_lt (hPr (L + 1, oS) (.tail _ (.tail _ (.tail _ (.head _)))))
      · exact bagP p hp
    have hch : chOf i ∈ subsL := List.mem_map.mpr ⟨i, List.mem_range.mpr hi, rfl⟩
    refine stmts (law6b (c := c) (ch := chOf i) (Pr := Pr) (pa := pa) X0 T F4 N4' hP (.tail _ (.tail _ (.tail _ (.tail _ (.tail _ hpa'))))) hp hpl (.head _) hcv hch get_eq (by walk_at "m get") hrl nePr ?_)
    intro h5 tk5 dr5 a u F5 N5 lt5
    refine nextTo (wpAny_execs_nil ?_)
    have sub1 : ∀ p ∈ bag, p ∈ (a, tupOf [.int (priceOf ps (chOf i)) u, .ref c]) :: (c, tupOf cv) :: bag := fun p hp => .tail _ (.tail _ hp)
    have key : KeyIn ((a, tupOf [.int (priceOf ps (chOf i)) u, .ref c]) :: (c, tupOf cv) :: bag) (.ref a) (keyOf ps (chOf i)) := ⟨a, c, u, cv, rfl, .head _, .tail _ (.head _), hcv⟩
    have ltc := lt5 (c, tupOf cv) (.tail _ (.tail _ (.head _)))
    subst hbag
    refine ⟨h5, tk5, dr5, _, [(I12, oI)], (Pr, listOf (List.toArray (rv ++ [.ref a])) (q + 1)) :: (L + 1 + 1 + 1 + 1, oN3) :: (L + 1 + 1 + 1, oP) :: (L + 1 + 1, oK) :: (L + 1, oS) :: (((a, tupOf [.int (priceOf ps (chOf i)) u, .ref c]) :: (c, tupOf cv) :: new) ++ rest), rfl, F5, news_sub N5 (by walk_at "m sub"), ?_, ?_, oN3, _, rv ++ [.ref a], q + 1, (a, tupOf [.int (priceOf ps (chOf i)) u, .ref c]) :: (c, tupOf cv) :: new, rfl, dN3, ?_, ?_, ?_⟩
    · intro p hp hm
      have e : p.1 = I12 := by simpa using hm
      simp only [List.cons_append, List.mem_cons] at hp
      rcases hp with rfl | rfl | rfl | rfl | rfl | rfl | rfl | hp
      · exact nI (Pr, _) (.head _) e
      · exact nI4 e.symm
      · exact nI (L + 1 + 1 + 1, oP) (.tail _ (.tail _ (.head _))) e
      · exact nI (L + 1 + 1, oK) (.tail _ (.tail _ (.tail _ (.head _)))) e
      · exact nI (L + 1, oS) (.tail _ (.tail _ (.tail _ (.tail _ (.head _))))) e
      · have := lt5 (I12, oI) (.tail _ (.tail _ (.tail _ (.tail _ (.head _)))))
        rw [← e] at this; exact absurd this (Nat.lt_irrefl _)
      · have := lt4 (I12, oI) (.tail _ (.tail _ (.head _)))
        rw [← e] at this; exact absurd this (Nat.lt_irrefl _)
      · exact nI p (.tail _ (.tail _ (.tail _ (.tail _ (.tail _ hp))))) e
    · rw [← hoI]; exact rfl
    · rw [List.range_succ, List.map_append]
      exact (hk.mono sub1).snoc key
    · intro p hp
      rcases List.mem_cons.mp hp with rfl | hp
      · exact ⟨Nat.ne_of_gt (lt5 (Pr, _) (.head _)), Nat.ne_of_gt (lt5 (L + 1 + 1 + 1 + 1, oN3) (.tail _ (.tail _ (.tail _ (.head _)))))⟩
      · rcases List.mem_cons.mp hp with rfl | hp
        · exact ⟨Nat.ne_of_gt (lt4 (Pr, _) (.tail _ (.head _))), Nat.ne_of_gt (lt4 (L + 1 + 1 + 1 + 1, oN3) (.head _))⟩
        · exact hne p hp
    · intro y hy
      simp only [if_neg hy]
      exact hmy y hy
  · rintro m₁ nw h2 tk2 dr2 ⟨oN, vN, rv, q, new, rfl, hN, hk, hne, hmy⟩ F2 N2
    refine h _ _ _ m₁ oN rv q new F2 hmy N2 ?_
    have e : subsL.map (keyOf ps) = (List.range 16).map fun n => keyOf ps (chOf n) := by unfold subsL; rw [List.map_map]; rfl
    rw [e]; exact hk
end Mine
end
section
open PySem PySem.W PyProof.Rows PySem.Calls
open PyProof.Rows.LCg (lst NsObj SrcAt)
open PySem.SeqAt
set_option Elab.async false
set_option maxRecDepth 100000
set_option maxHeartbeats 8000000
namespace Mine
theorem set_back_MLaw8a : True := by w_top off; trivial
theorem words_MLaw8a : True := by
  k_with_none
  k_with "m s0" => ((fail_if_success (with_reducible show WStep _ _ _ _ _ _)); (fail_if_success (with_reducible show wpAny _ _ (eval (Expr.ListComp _ _ _ _) _) _ _ _)); (fail_if_success (with_reducible show wpAny _ _ (exec (Stmt.For _ _ _ _ _) _) _ _ _)); (fail_if_success (with_reducible show wpAny _ _ (exec (Stmt.Assign _ (Expr.ListComp _ _ _ _) _ _) _) _ _ _)))
  k_with "m get" => ((repeat (first | assumption | exact get_eq | refine get_ne (by decide) ?_ | rfl)))
  k_with "eval Name" => (((with_reducible show wpAny _ _ (eval (Expr.Name _ _) (envOf _ _ _ _ _)) _ _ _); k_dflt (refine' ld ?z9k1 ?z9k2 ?_; (case z9k1 => k_asm); (case z9k2 => walk_at "m get"); k_whole)))
  k_with "subscriptTail" => (((with_reducible show wpAny _ _ (subscriptTail _ _ (Value.ref _) (Value.int _ _)) _ _ _); (refine' item_h ?z9k1 ?z9k2 ?z9k3 ?z9k4 ?_; (case z9k1 => assumption); (case z9k2 => omega); (case z9k3 => omega); (case z9k4 => assumption); k_whole)))
  k_with "setItem ref int" => ((((with_reducible show wpAny _ _ (setItem (Value.ref _) (Value.int _ _) _) _ _ _); (refine' setItem_h ?z9k1 ?z9k2 ?z9k3 ?z9k4 ?z9k5 ?z9k6 ?_; (case z9k1 => assumption); (case z9k2 => assumption); (case z9k3 => assumption); (case z9k4 => omega); (case z9k5 => assumption); (case z9k6 => omega); k_whole); intro h' F' N'); revert h' F' N'; intro _ _ _))
  k_with "call builtin:len" => (((with_reducible show wpAny _ _ (call (Value.builtin _) [Value.ref _]) _ _ _); (refine' len_h ?z9k1 ?z9k2 ?_; (case z9k1 => assumption); (case z9k2 => first | assumption | (simp only [List.length_append, List.length_cons, List.length_nil]; omega)); k_whole)))
  k_with "call builtin:list.append" => ((((with_reducible show wpAny _ _ (call (Value.builtin _) [Value.ref _, _]) _ _ _); (refine' append_h ?z9k1 ?z9k2 ?z9k3 ?z9k4 ?_; (case z9k1 => assumption); (case z9k2 => assumption); (case z9k3 => assumption); (case z9k4 => omega); k_whole); intro h' F' N'); revert h' F' N'; intro _ _ _))
  k_with "call builtin:list.pop" => ((((with_reducible show wpAny _ _ (call (Value.builtin _) [Value.ref _]) _ _ _); (refine' pop_h ?z9k1 ?z9k2 ?z9k3 ?z9k4 ?_; (case z9k1 => assumption); (case z9k2 => assumption); (case z9k3 => assumption); (case z9k4 => omega); k_whole); intro h' F' N'); revert h' F' N'; intro _ _ _))
  k_with "eval Name" => (((with_reducible show wpAny _ _ (eval (Expr.Name _ _) (compEnvC _ _ _ _)) _ _ _); k_dflt (refine' PySem.W.LCgL.ld_own ?z9k1 ?z9k2 ?z9k3 ?z9k4 ?_; (case z9k1 => k_asm); (case z9k2 => exact List.Mem.head _); (case z9k3 => assumption); (case z9k4 => walk_at "m get"); k_whole)))
  k_with "m mem" => (first | assumption | exact List.Mem.head _ | exact List.mem_append.mpr (Or.inl (by assumption)) | exact List.mem_append.mpr (Or.inr (by assumption)) | (refine List.Mem.tail _ ?_; walk_at "m mem"))
  k_with "subscriptTail" => (((with_reducible show wpAny _ _ (subscriptTail _ _ (Value.ref _) (Value.int _ _)) _ _ _); (refine' item_m ?z9k1 ?z9k2 ?z9k3 ?z9k4 ?z9k5 ?_; (case z9k1 => assumption); (case z9k5 => assumption); (case z9k2 => walk_at "m mem"); (case z9k3 => omega); (case z9k4 => omega); k_whole)))
  k_with "truthy ref" => ((k_dflt (refine' truthy_D ?z9N ?z9d ?z9m ?z9s ?z9f ?_; (case z9N => assumption); (case z9d => assumption); (case z9m => walk_at "m mem"); (case z9s => assumption); (case z9f => first | assumption | decide | omega); k_whole)))
  k_with "truthy ref" => ((k_dflt (refine' truthy_L ?z9N ?z9m ?z9f ?_; (case z9N => assumption); (case z9m => walk_at "m mem"); (case z9f => first | assumption | omega); k_whole)))
  k_with "call type:set" => ((((with_reducible show wpAny _ _ (call (Value.type _) [Value.ref _]) _ _ _); k_dflt (refine' set_new_strsN ?z9F ?z9N ?z9m ?z9v ?z9n ?z9hh ?z9f ?_; (case z9F => assumption); (case z9N => assumption); (case z9m => walk_at "m mem"); (case z9v => assumption); (case z9n => assumption); (case z9hh => exact rfl); (case z9f => first | assumption | omega); k_whole); intro h' tk' D' o' F' N' hS' l1'; (try k_lt l1')); revert h' tk' D' o' F' N' hS' l1'; intro _ _ _ _ _ _ _ _))
  k_with "call type:set nil nil" => (((k_dflt (refine' set_new_0 ?z9F ?z9N ?_; (case z9F => assumption); (case z9N => assumption); k_whole); intro h' D' o' F' N' hS' l1'; (try k_lt l1')); revert h' D' o' F' N' hS' l1'; intro _ _ _ _ _ _ _))
  k_with "getItem ref str" => (((k_dflt (refine' getItem_D ?z9N ?z9d ?z9f ?z9m ?z9s ?z9l ?_; (case z9N => assumption); (case z9d => assumption); (case z9f => assumption); (case z9m => walk_at "m mem"); (case z9s => assumption); (case z9l => assumption); k_whole); intro v' hv'); revert v' hv'; intro _ _))
  k_with "compareOp In str ref" => ((k_dflt (refine' in_set ?z9N ?z9m ?z9d ?_; (case z9N => assumption); (case z9d => assumption); (case z9m => walk_at "m mem"); k_whole)))
  k_with "setItem ref str" => (((k_dflt (refine' setItem_K PyProof.V.same_str (strKind_is _ _ _ _) ?z9v ?z9F ?z9N ?z9U ?z9d ?z9f ?_ ?z9z; (case z9F => assumption); (case z9N => assumption); (case z9U => k_updF); (case z9d => assumption); (case z9f => assumption); (case z9z => (rw [sizeLine_eq]; omega)); (case z9v => k_flat)); intro h' o' F' N' hd' hf'; (try dsimp only at N')); revert h' o' F' N' hd' hf'; intro _ _ _ _ _ _))
  k_with "binaryOp Add str str" => (((refine PyProof.Rows.add_str (hsz := ?z9hsz) ?_); (case z9hsz => (have e1 : (Str.ofString ".").length = 1 := by decide); (have e2 : (Str.ofString "/").length = 1 := by decide); (have e3 : (Str.ofString "/.").length = 2 := by decide); rw [sizeLine_eq]; omega); intro _ _))
  k_with "eval Name" => (((with_reducible show wpAny _ _ (eval (Expr.Name _ _) (compEnvC _ _ _ _)) _ _ _); k_dflt (refine' PySem.W.LCgL.ld_own ?z9k1 ?z9k2 ?z9k3 ?z9k4 ?_; (case z9k1 => k_asm); (case z9k2 => walk_at "m mem"); (case z9k3 => assumption); (case z9k4 => walk_at "m get"); k_whole)))
  k_with "m on" => ((repeat' (walk_at "m s0"; (fail_if_success (with_reducible show wpAny _ _ (call (Value.ref _) _ _) _ _ _)); first | walk1 | (dsimp only; walk1) | (with_reducible refine ite_neg Bool.false_ne_true ?_) | (with_reducible refine ite_pos rfl ?_))))
  k_with "eval Name" => (((with_reducible show wpAny _ _ (eval (Expr.Name _ _) (envOfC _ _ _ _ _)) _ _ _); k_dflt (refine' nameX_L ?z9F ?z9v ?_ ?z9a ?z9b; (case z9F => k_asm); (case z9a => rfl); (case z9b => rfl); (case z9v => walk_at "m get"); k_whole)))
  k_with "callWith" => (first | with_reducible refine PyProof.Rows.callWith_method0 ?_ | with_reducible refine PyProof.Rows.callWith_builtin1 ?_ | with_reducible refine PyProof.Rows.callWith_method1 ?_)
  trivial
theorem CallsOk.at {cvs : List Value} {cl : Led} {calls : List (Option Str × Str)} (h : CallsOk cvs cl calls) {hp : Heap} (hh : ∀ p ∈ cl, hp.get? p.1 = some p.2) : CallsAt hp cvs calls :=
  ⟨h.1, fun i hi => by obtain ⟨a, pv, u, x1, x2, x3⟩ := h.2 i hi; exact ⟨a, pv, u, x1, ⟨_, hh _ x2, rfl, _, rfl⟩, x3⟩⟩
theorem law8a {w : World} {s : Shared} {g : Heap} {L fa : Addr} {cd : Value} {m mg mb : Str → Option Value} {mean : ExcName → Option Value} {p : Program} {loose : List Str}
 (X : (Mine.hd.heap_1 w.params).In g) (T : Top p loose mean mg mb g) (F : Fr g L s.heap m) {led : Led} {a c ca : Addr} {cv cvs : List Value} {q : Nat} {k1 : Int} {u : Tok} {ch : List Int} (N : News g L s.heap led) (hm1 : m (Str.ofString "pair") = some (.ref a)) (hm2 : m (Str.ofString "calls") = some (.ref ca))
 (ha : (a, tupOf [.int k1 u, .ref c]) ∈ led) (hc : (c, tupOf cv) ∈ led) (hi : IntsAre cv ch) (hs : ch ∈ subsL) (hca : (ca, listOf cvs.toArray q) ∈ led) (hcs : CallsOk cvs led callsL) {Q : Flow → Shared → Prop}
 (h : ∀ h' tk dr D ts n, Fr g L h' (fun y => if y = Str.ofString "answers" then some (.ref D) else m y) → News g L h' ((D, listOf (List.toArray ts) n) :: led) → (∀ p ∈ led, p.1 ≠ D) → IntsAre ts (toldP ch) → Q .next { s with heap := h', toks := tk, drawn := dr }) :
 wpAny (model PySem.Challenge.rw_nq0047_02.row.prog w) (lAr L fa cd) (exec (fStmt 8 0) (lEnv L fa cd)) Q NoE s := by
  have hcat := hcs.at fun p hp => (N p hp).1
  have hcl := N.isList hca
  obtain ⟨f1, f2, f3⟩ := subs_facts ch hs
  revert X
  k_fill
  intro X
  dsimp only [lAr, fStmt, lEnv, topS, PySem.Challenge.pw_nq0047_02, nth, fnBody, forBody, fnScope, whBody, List.drop]
  walk_at "m on"
  refine wpAny_call ?_
  refine answers_K (c := c) (ca := ca) (below_caller _) F X (news_sub (l' := [(c, tupOf cv)]) N ?_) T rfl rfl rfl hi f1 f3 hcl hcat (by decide) calls_small ?_ ?_ rfl ?_
  · intro p hp
    rw [List.mem_singleton.mp hp]; exact hc
  · k_room
  · show 4 + 3 < 300; decide
  intro h1 tk1 dr1 D ts n F1 N1 hts kp ne
  rw [answers_ok ch hs] at hts
  have N2 := news_cons N1 (N.grown kp)
  have hne : ∀ p ∈ led, p.1 ≠ D := fun p hp => ne _ _ (N p hp).1
  k_sweep
  walk1
  (try dsimp only)
  exact h _ _ _ D ts n (by assumption) (by assumption) hne hts
end Mine
end
section
open PySem PySem.W PyProof.Rows PySem.Calls
open PyProof.Rows.LCg (lst NsObj SrcAt)
open PySem.SeqAt
set_option Elab.async false
set_option maxRecDepth 100000
set_option maxHeartbeats 8000000
namespace Mine
theorem set_back_MLaw8b : True := by w_top off; trivial
theorem words_MLaw8b : True := by
  k_with_none
  k_with "m s0" => ((fail_if_success (with_reducible show WStep _ _ _ _ _ _)); (fail_if_success (with_reducible show wpAny _ _ (eval (Expr.ListComp _ _ _ _) _) _ _ _)); (fail_if_success (with_reducible show wpAny _ _ (exec (Stmt.For _ _ _ _ _) _) _ _ _)); (fail_if_success (with_reducible show wpAny _ _ (exec (Stmt.Assign _ (Expr.ListComp _ _ _ _) _ _) _) _ _ _)))
  k_with "m get" => ((repeat (first | assumption | exact get_eq | refine get_ne (by decide) ?_ | rfl)))
  k_with "eval Name" => (((with_reducible show wpAny _ _ (eval (Expr.Name _ _) (envOf _ _ _ _ _)) _ _ _); k_dflt (refine' ld ?z9k1 ?z9k2 ?_; (case z9k1 => k_asm); (case z9k2 => walk_at "m get"); k_whole)))
  k_with "subscriptTail" => (((with_reducible show wpAny _ _ (subscriptTail _ _ (Value.ref _) (Value.int _ _)) _ _ _); (refine' item_h ?z9k1 ?z9k2 ?z9k3 ?z9k4 ?_; (case z9k1 => assumption); (case z9k2 => omega); (case z9k3 => omega); (case z9k4 => assumption); k_whole)))
  k_with "setItem ref int" => ((((with_reducible show wpAny _ _ (setItem (Value.ref _) (Value.int _ _) _) _ _ _); (refine' setItem_h ?z9k1 ?z9k2 ?z9k3 ?z9k4 ?z9k5 ?z9k6 ?_; (case z9k1 => assumption); (case z9k2 => assumption); (case z9k3 => assumption); (case z9k4 => omega); (case z9k5 => assumption); (case z9k6 => omega); k_whole); intro h' F' N'); revert h' F' N'; intro _ _ _))
  k_with "call builtin:len" => (((with_reducible show wpAny _ _ (call (Value.builtin _) [Value.ref _]) _ _ _); (refine' len_h ?z9k1 ?z9k2 ?_; (case z9k1 => assumption); (case z9k2 => first | assumption | (simp only [List.length_append, List.length_cons, List.length_nil]; omega)); k_whole)))
  k_with "call builtin:list.append" => ((((with_reducible show wpAny _ _ (call (Value.builtin _) [Value.ref _, _]) _ _ _); (refine' append_h ?z9k1 ?z9k2 ?z9k3 ?z9k4 ?_; (case z9k1 => assumption); (case z9k2 => assumption); (case z9k3 => assumption); (case z9k4 => omega); k_whole); intro h' F' N'); revert h' F' N'; intro _ _ _))
  k_with "call builtin:list.pop" => ((((with_reducible show wpAny _ _ (call (Value.builtin _) [Value.ref _]) _ _ _); (refine' pop_h ?z9k1 ?z9k2 ?z9k3 ?z9k4 ?_; (case z9k1 => assumption); (case z9k2 => assumption); (case z9k3 => assumption); (case z9k4 => omega); k_whole); intro h' F' N'); revert h' F' N'; intro _ _ _))
  k_with "eval Name" => (((with_reducible show wpAny _ _ (eval (Expr.Name _ _) (compEnvC _ _ _ _)) _ _ _); k_dflt (refine' PySem.W.LCgL.ld_own ?z9k1 ?z9k2 ?z9k3 ?z9k4 ?_; (case z9k1 => k_asm); (case z9k2 => exact List.Mem.head _); (case z9k3 => assumption); (case z9k4 => walk_at "m get"); k_whole)))
  k_with "m mem" => (first | assumption | exact List.Mem.head _ | exact List.mem_append.mpr (Or.inl (by assumption)) | exact List.mem_append.mpr (Or.inr (by assumption)) | (refine List.Mem.tail _ ?_; walk_at "m mem"))
  k_with "subscriptTail" => (((with_reducible show wpAny _ _ (subscriptTail _ _ (Value.ref _) (Value.int _ _)) _ _ _); (refine' item_m ?z9k1 ?z9k2 ?z9k3 ?z9k4 ?z9k5 ?_; (case z9k1 => assumption); (case z9k5 => assumption); (case z9k2 => walk_at "m mem"); (case z9k3 => omega); (case z9k4 => omega); k_whole)))
  k_with "truthy ref" => ((k_dflt (refine' truthy_D ?z9N ?z9d ?z9m ?z9s ?z9f ?_; (case z9N => assumption); (case z9d => assumption); (case z9m => walk_at "m mem"); (case z9s => assumption); (case z9f => first | assumption | decide | omega); k_whole)))
  k_with "truthy ref" => ((k_dflt (refine' truthy_L ?z9N ?z9m ?z9f ?_; (case z9N => assumption); (case z9m => walk_at "m mem"); (case z9f => first | assumption | omega); k_whole)))
  k_with "call type:set" => ((((with_reducible show wpAny _ _ (call (Value.type _) [Value.ref _]) _ _ _); k_dflt (refine' set_new_strsN ?z9F ?z9N ?z9m ?z9v ?z9n ?z9hh ?z9f ?_; (case z9F => assumption); (case z9N => assumption); (case z9m => walk_at "m mem"); (case z9v => assumption); (case z9n => assumption); (case z9hh => exact rfl); (case z9f => first | assumption | omega); k_whole); intro h' tk' D' o' F' N' hS' l1'; (try k_lt l1')); revert h' tk' D' o' F' N' hS' l1'; intro _ _ _ _ _ _ _ _))
  k_with "call type:set nil nil" => (((k_dflt (refine' set_new_0 ?z9F ?z9N ?_; (case z9F => assumption); (case z9N => assumption); k_whole); intro h' D' o' F' N' hS' l1'; (try k_lt l1')); revert h' D' o' F' N' hS' l1'; intro _ _ _ _ _ _ _))
  k_with "getItem ref str" => (((k_dflt (refine' getItem_D ?z9N ?z9d ?z9f ?z9m ?z9s ?z9l ?_; (case z9N => assumption); (case z9d => assumption); (case z9f => assumption); (case z9m => walk_at "m mem"); (case z9s => assumption); (case z9l => assumption); k_whole); intro v' hv'); revert v' hv'; intro _ _))
  k_with "compareOp In str ref" => ((k_dflt (refine' in_set ?z9N ?z9m ?z9d ?_; (case z9N => assumption); (case z9d => assumption); (case z9m => walk_at "m mem"); k_whole)))
  k_with "setItem ref str" => (((k_dflt (refine' setItem_K PyProof.V.same_str (strKind_is _ _ _ _) ?z9v ?z9F ?z9N ?z9U ?z9d ?z9f ?_ ?z9z; (case z9F => assumption); (case z9N => assumption); (case z9U => k_updF); (case z9d => assumption); (case z9f => assumption); (case z9z => (rw [sizeLine_eq]; omega)); (case z9v => k_flat)); intro h' o' F' N' hd' hf'; (try dsimp only at N')); revert h' o' F' N' hd' hf'; intro _ _ _ _ _ _))
  k_with "binaryOp Add str str" => (((refine PyProof.Rows.add_str (hsz := ?z9hsz) ?_); (case z9hsz => (have e1 : (Str.ofString ".").length = 1 := by decide); (have e2 : (Str.ofString "/").length = 1 := by decide); (have e3 : (Str.ofString "/.").length = 2 := by decide); rw [sizeLine_eq]; omega); intro _ _))
  k_with "eval Name" => (((with_reducible show wpAny _ _ (eval (Expr.Name _ _) (compEnvC _ _ _ _)) _ _ _); k_dflt (refine' PySem.W.LCgL.ld_own ?z9k1 ?z9k2 ?z9k3 ?z9k4 ?_; (case z9k1 => k_asm); (case z9k2 => walk_at "m mem"); (case z9k3 => assumption); (case z9k4 => walk_at "m get"); k_whole)))
  k_with "m on" => ((repeat' (walk_at "m s0"; (fail_if_success (with_reducible show wpAny _ _ (call (Value.ref _) _ _) _ _ _)); first | walk1 | (dsimp only; walk1) | (with_reducible refine ite_neg Bool.false_ne_true ?_) | (with_reducible refine ite_pos rfl ?_))))
  k_with "m cmp" => ((repeat' (walk_at "m s0"; (fail_if_success (with_reducible show wpAny _ _ (call (Value.ref _) _ _) _ _ _)); (fail_if_success (with_reducible show wpAny _ _ (compareOp _ (Value.ref _) (Value.ref _)) _ _ _)); first | walk1 | (dsimp only; walk1) | (with_reducible refine ite_neg Bool.false_ne_true ?_) | (with_reducible refine ite_pos rfl ?_))))
  k_with "eval Name" => (((with_reducible show wpAny _ _ (eval (Expr.Name _ _) (envOfC _ _ _ _ _)) _ _ _); k_dflt (refine' nameX_L ?z9F ?z9v ?_ ?z9a ?z9b; (case z9F => k_asm); (case z9a => rfl); (case z9b => rfl); (case z9v => walk_at "m get"); k_whole)))
  k_with "callWith" => (first | with_reducible refine PyProof.Rows.callWith_method0 ?_ | with_reducible refine PyProof.Rows.callWith_builtin1 ?_ | with_reducible refine PyProof.Rows.callWith_method1 ?_)
  trivial
theorem law8b {w : World} {s : Shared} {g : Heap} {L fa : Addr} {cd : Value} {m mg mb : Str → Option Value} {mean : ExcName → Option Value} {p : Program} {loose : List Str}
 (X : (Mine.hd.heap_1 w.params).In g) (T : Top p loose mean mg mb g) (F : Fr g L s.heap m) {rest : Led} {a D Du : Addr} {dv : List Value} {q : Nat} (N : News g L s.heap ((Du, listOf dv.toArray q) :: rest)) (hm1 : m (Str.ofString "pair") = some (.ref a)) (hm2 : m (Str.ofString "answers") = some (.ref D)) (hm3 : m (Str.ofString "due") = some (.ref Du)) (hl : dv.length < 100) (hDu : ∀ p ∈ rest, p.1 ≠ Du) {Q : Flow → Shared → Prop}
 (h : ∀ h' tk dr P, Fr g L h' m → News g L h' ((P, tupOf [.ref a, .ref D]) :: (Du, listOf (List.toArray (dv ++ [.ref P])) (q + 1)) :: rest) → (∀ p ∈ (Du, listOf dv.toArray q) :: rest, p.1 < P) → Q .next { s with heap := h', toks := tk, drawn := dr }) :
 wpAny (model PySem.Challenge.rw_nq0047_02.row.prog w) (lAr L fa cd) (exec (fStmt 8 1) (lEnv L fa cd)) Q NoE s := by
  revert X
  k_fill
  intro X
  dsimp only [lAr, fStmt, lEnv, topS, PySem.Challenge.pw_nq0047_02, nth, fnBody, forBody, fnScope, whBody, List.drop]
  walk_at "m on"
  rename_i A9 h9 l9 h10 F10 N10
  have e9 : ∀ x, dv.toArray.push x = (dv ++ [x]).toArray := fun x => by simp
  rw [e9] at N10
  refine h _ _ _ A9 F10 N10 fun p hp => ?_
  rcases List.mem_cons.mp hp with rfl | hp
  · exact l9.1
  · exact kst_ltOf l9.2 p hp
theorem law8c {w : World} {s : Shared} {g : Heap} {L fa : Addr} {cd : Value} {m mg mb : Str → Option Value} {mean : ExcName → Option Value} {p : Program} {loose : List Str}
 (X : (Mine.hd.heap_1 w.params).In g) (T : Top p loose mean mg mb g) (F : Fr g L s.heap m) {led : Led} {D Du Tl wa : Addr} {ts wv tv dv : List Value} {n nw nt nd : Nat} {ai wi : List Int} {r : List Key × Bool} (N : News g L s.heap led) (hm1 : m (Str.ofString "answers") = some (.ref D)) (hm2 : m (Str.ofString "wishes") = some (.ref wa)) (hm3 : m (Str.ofString "told") = some (.ref Tl)) (hm4 : m (Str.ofString "due") = some (.ref Du))
 (h1 : (D, listOf ts.toArray n) ∈ led) (h2 : (wa, listOf wv.toArray nw) ∈ led) (h3 : (Tl, listOf tv.toArray nt) ∈ led) (h4 : (Du, listOf dv.toArray nd) ∈ led) (hi : IntsAre ts ai) (hw : IntsAre wv wi) (hl : wi.length = ai.length) (hlen : ai.length < 1000) (hr : wishedB ai wi = true → ToldIn led tv r ∧ ToldIn led dv r) {Q : Flow → Shared → Prop}
 (hret : ∀ h' tk dr, Fr g L h' m → Q (.ret (.bool true)) { s with heap := h', toks := tk, drawn := dr }) (h : wishedB ai wi = false → ∀ h' tk dr, Fr g L h' m → News g L h' led → Q .next { s with heap := h', toks := tk, drawn := dr }) :
 wpAny (model PySem.Challenge.rw_nq0047_02.row.prog w) (lAr L fa cd) (exec (fStmt 8 2) (lEnv L fa cd)) Q NoE s := by
  revert X
  k_fill
  intro X
  dsimp only [lAr, fStmt, lEnv, topS, PySem.Challenge.pw_nq0047_02, nth, fnBody, forBody, fnScope, whBody, List.drop]
  walk_at "m on"
  refine wpAny_call ?_
  refine wished_K (a := D) (b := wa) (ans := ts) (ws := wv) (below_caller _) F X N T rfl rfl rfl ?_ ?_ rfl h1 h2 hi hw hl hlen ?_
  · k_room
  · show 4 + 3 < 300; decide
  intro h5 tk5 dr5 F5 N5
  k_sweep
  cases hb : wishedB ai wi with
  | false =>
    walk_at "m cmp"
    exact h hb _ _ _ F5 N5
  | true =>
    obtain ⟨r1, r2⟩ := hr hb
    walk_at "m cmp"
    refine rc_told (fun p hp => (N5 p hp).1) (N5 _ h3).1 (N5 _ h4).1 r1 r2 ?_ _ _ _ _ ?_
    · show 4 + 3 + 20 < 9900; decide
    exact hret _ _ _ F5
theorem law9 {w : World} {s : Shared} {g : Heap} {L fa : Addr} {cd : Value} {m mg mb : Str → Option Value} {mean : ExcName → Option Value} {p : Program} {loose : List Str}
 (X : (Mine.hd.heap_1 w.params).In g) (T : Top p loose mean mg mb g) (F : Fr g L s.heap m) {led : Led} {Du Tl : Addr} {tv dv : List Value} {nt nd : Nat} {ks : List Key} (N : News g L s.heap led) (hm3 : m (Str.ofString "told") = some (.ref Tl)) (hm4 : m (Str.ofString "due") = some (.ref Du))
 (h3 : (Tl, listOf tv.toArray nt) ∈ led) (h4 : (Du, listOf dv.toArray nd) ∈ led) (hl : dv.length < 100) (hr1 : ToldIn led tv (ks, false)) (hr2 : ItemsIn led dv ks) {Q : Flow → Shared → Prop} (hret : ∀ h' tk dr, Fr g L h' m → Q (.ret (.bool true)) { s with heap := h', toks := tk, drawn := dr }) :
 wpAny (model PySem.Challenge.rw_nq0047_02.row.prog w) (lAr L fa cd) (exec (lStmt 9) (lEnv L fa cd)) Q NoE s := by
  revert X
  k_fill
  intro X
  dsimp only [lAr, lStmt, lEnv, topS, PySem.Challenge.pw_nq0047_02, nth, fnBody, fnScope, whBody, List.drop]
  walk_at "m on"
  rename_i l1 h1 F1 N1 lt1
  refine add_lists (vs := dv) (ws := [Value.str (Str.ofString "nothing left") s.toks]) F1 N1 (N1.isList (.tail _ h4)) (N1.isList (.head _)) ?_ ?_
  · intro h2 F2 N2
    refine rc_told (tv := tv) (dv := dv ++ [Value.str (Str.ofString "nothing left") s.toks]) (nt := nt) (nd := 0) (r := (ks, false)) (fun p hp => (N2 p (.tail _ (.tail _ hp))).1) (N2 _ (.tail _ (.tail _ h3))).1 (N2 _ (.head _)).1 hr1 ⟨dv, hr2, .inr ⟨rfl, _, rfl⟩⟩ ?_ _ _ _ _ ?_
    · show 4 + 3 + 20 < 9900; decide
    exact hret _ _ _ F2
  · rw [sizeLine_eq]; simp only [List.length_singleton]; omega
end Mine
end
section
open PySem PySem.W PyProof.Rows PySem.Calls
open PyProof.Rows.LCg (lst NsObj SrcAt)
open PySem.SeqAt
set_option Elab.async false
set_option maxRecDepth 100000
set_option maxHeartbeats 8000000
namespace Mine
theorem set_back_MLaw8 : True := by w_top off; trivial
theorem words_MLaw8 : True := by
  k_with_none
  k_with "m get" => ((repeat (first | assumption | exact get_eq | refine get_ne (by decide) ?_ | rfl)))
  k_with "eval Name" => (((with_reducible show wpAny _ _ (eval (Expr.Name _ _) (envOf _ _ _ _ _)) _ _ _); k_dflt (refine' ld ?z9k1 ?z9k2 ?_; (case z9k1 => k_asm); (case z9k2 => walk_at "m get"); k_whole)))
  k_with "subscriptTail" => (((with_reducible show wpAny _ _ (subscriptTail _ _ (Value.ref _) (Value.int _ _)) _ _ _); (refine' item_h ?z9k1 ?z9k2 ?z9k3 ?z9k4 ?_; (case z9k1 => assumption); (case z9k2 => omega); (case z9k3 => omega); (case z9k4 => assumption); k_whole)))
  k_with "setItem ref int" => ((((with_reducible show wpAny _ _ (setItem (Value.ref _) (Value.int _ _) _) _ _ _); (refine' setItem_h ?z9k1 ?z9k2 ?z9k3 ?z9k4 ?z9k5 ?z9k6 ?_; (case z9k1 => assumption); (case z9k2 => assumption); (case z9k3 => assumption); (case z9k4 => omega); (case z9k5 => assumption); (case z9k6 => omega); k_whole); intro h' F' N'); revert h' F' N'; intro _ _ _))
  k_with "call builtin:len" => (((with_reducible show wpAny _ _ (call (Value.builtin _) [Value.ref _]) _ _ _); (refine' len_h ?z9k1 ?z9k2 ?_; (case z9k1 => assumption); (case z9k2 => first | assumption | (simp only [List.length_append, List.length_cons, List.length_nil]; omega)); k_whole)))
  k_with "call builtin:list.append" => ((((with_reducible show wpAny _ _ (call (Value.builtin _) [Value.ref _, _]) _ _ _); (refine' append_h ?z9k1 ?z9k2 ?z9k3 ?z9k4 ?_; (case z9k1 => assumption); (case z9k2 => assumption); (case z9k3 => assumption); (case z9k4 => omega); k_whole); intro h' F' N'); revert h' F' N'; intro _ _ _))
  k_with "call builtin:list.pop" => ((((with_reducible show wpAny _ _ (call (Value.builtin _) [Value.ref _]) _ _ _); (refine' pop_h ?z9k1 ?z9k2 ?z9k3 ?z9k4 ?_; (case z9k1 => assumption); (case z9k2 => assumption); (case z9k3 => assumption); (case z9k4 => omega); k_whole); intro h' F' N'); revert h' F' N'; intro _ _ _))
  k_with "eval Name" => (((with_reducible show wpAny _ _ (eval (Expr.Name _ _) (compEnvC _ _ _ _)) _ _ _); k_dflt (refine' PySem.W.LCgL.ld_own ?z9k1 ?z9k2 ?z9k3 ?z9k4 ?_; (case z9k1 => k_asm); (case z9k2 => exact List.Mem.head _); (case z9k3 => assumption); (case z9k4 => walk_at "m get"); k_whole)))
  k_with "m mem" => (first | assumption | exact List.Mem.head _ | exact List.mem_append.mpr (Or.inl (by assumption)) | exact List.mem_append.mpr (Or.inr (by assumption)) | (refine List.Mem.tail _ ?_; walk_at "m mem"))
  k_with "subscriptTail" => (((with_reducible show wpAny _ _ (subscriptTail _ _ (Value.ref _) (Value.int _ _)) _ _ _); (refine' item_m ?z9k1 ?z9k2 ?z9k3 ?z9k4 ?z9k5 ?_; (case z9k1 => assumption); (case z9k5 => assumption); (case z9k2 => walk_at "m mem"); (case z9k3 => omega); (case z9k4 => omega); k_whole)))
  k_with "m sub" => ((intro q9 hq9; simp only [List.cons_append, List.nil_append, List.append_assoc, List.mem_cons, List.mem_append, List.not_mem_nil, or_false, false_or] at hq9 ⊢; grind))
  k_with "truthy ref" => ((k_dflt (refine' truthy_D ?z9N ?z9d ?z9m ?z9s ?z9f ?_; (case z9N => assumption); (case z9d => assumption); (case z9m => walk_at "m mem"); (case z9s => assumption); (case z9f => first | assumption | decide | omega); k_whole)))
  k_with "truthy ref" => ((k_dflt (refine' truthy_L ?z9N ?z9m ?z9f ?_; (case z9N => assumption); (case z9m => walk_at "m mem"); (case z9f => first | assumption | omega); k_whole)))
  k_with "call type:set" => ((((with_reducible show wpAny _ _ (call (Value.type _) [Value.ref _]) _ _ _); k_dflt (refine' set_new_strsN ?z9F ?z9N ?z9m ?z9v ?z9n ?z9hh ?z9f ?_; (case z9F => assumption); (case z9N => assumption); (case z9m => walk_at "m mem"); (case z9v => assumption); (case z9n => assumption); (case z9hh => exact rfl); (case z9f => first | assumption | omega); k_whole); intro h' tk' D' o' F' N' hS' l1'; (try k_lt l1')); revert h' tk' D' o' F' N' hS' l1'; intro _ _ _ _ _ _ _ _))
  k_with "call type:set nil nil" => (((k_dflt (refine' set_new_0 ?z9F ?z9N ?_; (case z9F => assumption); (case z9N => assumption); k_whole); intro h' D' o' F' N' hS' l1'; (try k_lt l1')); revert h' D' o' F' N' hS' l1'; intro _ _ _ _ _ _ _))
  k_with "getItem ref str" => (((k_dflt (refine' getItem_D ?z9N ?z9d ?z9f ?z9m ?z9s ?z9l ?_; (case z9N => assumption); (case z9d => assumption); (case z9f => assumption); (case z9m => walk_at "m mem"); (case z9s => assumption); (case z9l => assumption); k_whole); intro v' hv'); revert v' hv'; intro _ _))
  k_with "compareOp In str ref" => ((k_dflt (refine' in_set ?z9N ?z9m ?z9d ?_; (case z9N => assumption); (case z9d => assumption); (case z9m => walk_at "m mem"); k_whole)))
  k_with "setItem ref str" => (((k_dflt (refine' setItem_K PyProof.V.same_str (strKind_is _ _ _ _) ?z9v ?z9F ?z9N ?z9U ?z9d ?z9f ?_ ?z9z; (case z9F => assumption); (case z9N => assumption); (case z9U => k_updF); (case z9d => assumption); (case z9f => assumption); (case z9z => (rw [sizeLine_eq]; omega)); (case z9v => k_flat)); intro h' o' F' N' hd' hf'; (try dsimp only at N')); revert h' o' F' N' hd' hf'; intro _ _ _ _ _ _))
  k_with "binaryOp Add str str" => (((refine PyProof.Rows.add_str (hsz := ?z9hsz) ?_); (case z9hsz => (have e1 : (Str.ofString ".").length = 1 := by decide); (have e2 : (Str.ofString "/").length = 1 := by decide); (have e3 : (Str.ofString "/.").length = 2 := by decide); rw [sizeLine_eq]; omega); intro _ _))
  k_with "eval Name" => (((with_reducible show wpAny _ _ (eval (Expr.Name _ _) (compEnvC _ _ _ _)) _ _ _); k_dflt (refine' PySem.W.LCgL.ld_own ?z9k1 ?z9k2 ?z9k3 ?z9k4 ?_; (case z9k1 => k_asm); (case z9k2 => walk_at "m mem"); (case z9k3 => assumption); (case z9k4 => walk_at "m get"); k_whole)))
  k_with "eval Name" => (((with_reducible show wpAny _ _ (eval (Expr.Name _ _) (envOfC _ _ _ _ _)) _ _ _); k_dflt (refine' nameX_L ?z9F ?z9v ?_ ?z9a ?z9b; (case z9F => k_asm); (case z9a => rfl); (case z9b => rfl); (case z9v => walk_at "m get"); k_whole)))
  k_with "callWith" => (first | with_reducible refine PyProof.Rows.callWith_method0 ?_ | with_reducible refine PyProof.Rows.callWith_builtin1 ?_ | with_reducible refine PyProof.Rows.callWith_method1 ?_)
  k_with "m it" => ((repeat ((fail_if_success (with_reducible show wpAny _ _ (pyIter _) _ _ _)); first | walk1 | (dsimp only; walk1))))
  trivial
theorem law8 {w : World} {s : Shared} {g : Heap} {L fa : Addr} {cd : Value} {m mg mb : Str → Option Value} {mean : ExcName → Option Value} {p : Program} {loose : List Str}
 (X : (Mine.hd.heap_1 w.params).In g) (T : Top p loose mean mg mb g) (F : Fr g L s.heap m) {led : Led} {Pr ca wa Tl Du : Addr} {rv cvs wv tv : List Value} {qr qc qw nt : Nat} {ps wi : List Int} {S : List Key} (N : News g L s.heap ((Du, listOf #[] 0) :: led)) (hDu : ∀ p ∈ led, p.1 ≠ Du)
 (hm1 : m (Str.ofString "pairs") = some (.ref Pr)) (hm2 : m (Str.ofString "calls") = some (.ref ca)) (hm3 : m (Str.ofString "wishes") = some (.ref wa)) (hm4 : m (Str.ofString "told") = some (.ref Tl)) (hm5 : m (Str.ofString "due") = some (.ref Du))
 (hr : (Pr, listOf rv.toArray qr) ∈ led) (hk : KeysIn led rv (subsL.map (keyOf ps))) (hca : (ca, listOf cvs.toArray qc) ∈ led) (hcs : CallsOk cvs led callsL) (hwa : (wa, listOf wv.toArray qw) ∈ led) (hw : IntsAre wv wi) (hwl : wi.length = 6)
 (hTl : (Tl, listOf tv.toArray nt) ∈ led) (hT : ToldIn led tv (resP (okK wi) S)) (hS : SortedP ps S) {Q : Flow → Shared → Prop} (hret : ∀ h' tk dr m', Fr g L h' m' → Q (.ret (.bool true)) { s with heap := h', toks := tk, drawn := dr })
 (h : ∀ h' tk dr m' dv q led', Fr g L h' m' → m' (Str.ofString "told") = some (.ref Tl) → m' (Str.ofString "due") = some (.ref Du) → News g L h' ((Du, listOf (List.toArray dv) q) :: led') → (∀ p ∈ led, p ∈ led') → ItemsIn led' dv S → (∀ k ∈ S, okK wi k = false) → Q .next { s with heap := h', toks := tk, drawn := dr }) :
 wpAny (model PySem.Challenge.rw_nq0047_02.row.prog w) (lAr L fa cd) (exec (lStmt 8) (lEnv L fa cd)) Q NoE s := by
  have X0 := X
  have hkl : rv.length = 16 := by rw [hk.1, List.length_map, subs_len]
  revert X
  k_fill
  intro X
  dsimp only [lAr, lStmt, lEnv, topS, PySem.Challenge.pw_nq0047_02, nth, fnBody, fnScope, whBody, List.drop]
  refine wpAny_For ?_
  walk_at "m it"
  refine sorted_K (led0 := led) F N (.tail _ hr) (fun p hp => .tail _ hp) hk (by omega) (by omega) (keys_nodup ps) ?_ ?_
  · show 4 + 3 + 10 < 9900; decide
  intro h1 Ds ws ks' c F1 N1 l1 hws pm pw
  have eS : ks' = S := SortedP.one (ps := ps) ⟨pm, pw⟩ hS
  rw [eS] at hws
  clear pm pw eS ks'
  have hlen : ws.length = 16 := by rw [hws.1, hS.len]
  refine iter_listN (ax := Ds) F1 N1 (.head _) ?_
  intro h12 I12 own12 F12 N12 off12 ok12
  clear F1 N1 F N
  have hDs : Ds ≠ Du := fun e => absurd (l1 _ (.head _)) (by rw [e]; exact Nat.lt_irrefl _)
  refine for_walk (nextOk_list rfl) (fun i m₁ nw => ∃ dv q ex, nw = (Ds, listOf (List.toArray ws) c) :: (Du, listOf (List.toArray dv) q) :: (ex ++ led) ∧ ItemsIn (ex ++ led) dv (S.take i) ∧ (∀ k ∈ S.take i, okK wi k = false) ∧ (∀ p ∈ ex, p.1 ≠ Du) ∧ ∀ y, y ≠ Str.ofString "pair" → y ≠ Str.ofString "answers" → m₁ y = m y) F12 N12 off12 ok12 ⟨[], 0, [], rfl, ItemsIn.nil, fun k hk => by simp at hk, (fun p hp => nomatch hp), fun _ _ _ => rfl⟩ ?_ ?_ (fun _ _ q => q)
  · clear F12 N12 off12 ok12
    rintro i v m₁ nw own' h2 tk2 dr2 ext hi ⟨hv, rfl⟩ ⟨dv, q, ex, rfl, hit, hno, hex, hmy⟩ off2 hext F2 N2 ok2
    have hi16 : i < 16 := by rw [List.size_toArray, hlen] at hi; exact hi
    have hSl := hS.len
    obtain ⟨k0, hSi⟩ : ∃ k0, S[i]? = some k0 := ⟨S[i]'(by omega), List.getElem?_eq_getElem _⟩
    obtain ⟨v', e', hkv⟩ := hws.2 i (by omega)
    rw [(List.getElem?_eq_some_iff.mp hSi).2] at hkv
    obtain rfl : v' = v := by rw [List.getElem?_toArray, e'] at hv; exact Option.some.inj hv
    have hkv' := hkv
    obtain ⟨a, cc, u, cv, rfl, ha, hc, hic⟩ := hkv
    obtain ⟨ch, hch, hkey⟩ := hS.mem.mp (List.mem_of_getElem? hSi)
    have hk2 : k0.2 = ch := by rw [← hkey]; rfl
    rw [hk2] at hic
    obtain ⟨oI, rfl, ic, idt, _⟩ := ok2
    replace N2 : News g L h2 ((Ds, listOf (List.toArray ws) c) :: (Du, listOf (List.toArray dv) q) :: (I12, oI) :: (ex ++ led)) := news_sub N2 (by walk_at "m sub")
    have c2 : m₁ (Str.ofString "calls") = some (.ref ca) := (hmy _ (by decide) (by decide)).trans hm2
    have c3 : m₁ (Str.ofString "wishes") = some (.ref wa) := (hmy _ (by decide) (by decide)).trans hm3
    have c4 : m₁ (Str.ofString "told") = some (.ref Tl) := (hmy _ (by decide) (by decide)).trans hm4
    have c5 : m₁ (Str.ofString "due") = some (.ref Du) := (hmy _ (by decide) (by decide)).trans hm5
    have inB : ∀ p ∈ led, p ∈ (Ds, listOf (List.toArray ws) c) :: (Du, listOf (List.toArray dv) q) :: (I12, oI) :: (ex ++ led) := fun p hp => .tail _ (.tail _ (.tail _ (List.mem_append.mpr (.inr hp))))
    have hcs' : CallsOk cvs ((Ds, listOf (List.toArray ws) c) :: (Du, listOf (List.toArray dv) q) :: (I12, oI) :: (ex ++ led)) callsL := ⟨hcs.1, fun j hj => by obtain ⟨a, pv, u, x1, x2, x3⟩ := hcs.2 j hj; exact ⟨a, pv, u, x1, inB _ x2, x3⟩⟩
    have nI : ∀ p ∈ (Ds, listOf (List.toArray ws) c) :: (Du, listOf (List.toArray dv) q) :: (ex ++ led), p.1 ≠ I12 := fun p hp e => off2 p hp (e ▸ .head _)
    refine wpAny_assign_Name ?_
    walk1
    rename_i h3 F3 N3
    refine stmts (law8a (a := a) (c := cc) (ca := ca) X T F3 N3 (by walk_at "m get") (by walk_at "m get") (inB _ ha) (inB _ hc) hic hch (inB _ hca) hcs' ?_)
    intro h4 tk4 dr4 D ts n F4 N4 neD hts
    refine nextTo ?_
    replace N4 : News g L h4 ((Du, listOf (List.toArray dv) q) :: (D, listOf (List.toArray ts) n) :: (Ds, listOf (List.toArray ws) c) :: (I12, oI) :: (ex ++ led)) := news_sub N4 (by walk_at "m sub")
    refine stmts (law8b (a := a) (D := D) (Du := Du) (dv := dv) (q := q) X T F4 N4 (by walk_at "m get") (by walk_at "m get") (by walk_at "m get") (by rw [hit.1, List.length_take]; omega) ?_ ?_)
    · intro p hp
      simp only [List.mem_cons, List.mem_append] at hp
      rcases hp with rfl | rfl | rfl | hp | hp
      · exact (neD (Du, _) (.tail _ (.head _))).symm
      · exact hDs
      · exact (nI (Du, _) (.tail _ (.head _))).symm
      · exact hex p hp
      · exact hDu p hp
    intro h5 tk5 dr5 P F5 N5 ltP
    refine nextTo ?_
    have sub : ∀ p ∈ ex ++ led, p ∈ ((P, tupOf [.ref a, .ref D]) :: (D, listOf (List.toArray ts) n) :: ex) ++ led := fun p hp => .tail _ (.tail _ hp)
    have sub2 : ∀ p ∈ ((P, tupOf [.ref a, .ref D]) :: (D, listOf (List.toArray ts) n) :: ex) ++ led, p ∈ (P, tupOf [.ref a, .ref D]) :: (Du, listOf (List.toArray (dv ++ [.ref P])) (q + 1)) :: (D, listOf (List.toArray ts) n) :: (Ds, listOf (List.toArray ws) c) :: (I12, oI) :: (ex ++ led) := by walk_at "m sub"
    have subL : ∀ p ∈ led, p ∈ ((P, tupOf [.ref a, .ref D]) :: (D, listOf (List.toArray ts) n) :: ex) ++ led := fun p hp => List.mem_append.mpr (.inr hp)
    have item : ItemIn (((P, tupOf [.ref a, .ref D]) :: (D, listOf (List.toArray ts) n) :: ex) ++ led) (.ref P) k0 := ⟨P, .ref a, D, ts, n, rfl, .head _, hkv'.mono subL, .tail _ (.head _), by rw [hk2]; exact hts⟩
    have hits : ItemsIn (((P, tupOf [.ref a, .ref D]) :: (D, listOf (List.toArray ts) n) :: ex) ++ led) (dv ++ [.ref P]) (S.take (i + 1)) := by
      rw [List.take_add_one, hSi]
      exact (hit.mono sub).snoc item
    have hok : okK wi k0 = wishedB (toldP ch) wi := by unfold okK; rw [hk2]
    refine stmts (law8c (D := D) (Du := Du) (Tl := Tl) (wa := wa) (ts := ts) (ai := toldP ch) (r := resP (okK wi) S) X T F5 N5 (by walk_at "m get") (by walk_at "m get") (by walk_at "m get") (by walk_at "m get") (sub2 _ (.tail _ (.head _))) (sub2 _ (subL _ hwa)) (sub2 _ (subL _ hTl)) (.tail _ (.head _)) hts hw (by rw [hwl, told_len]) (by rw [told_len]; decide) (fun hb => ⟨hT.seq fun p hp _ => sub2 _ (subL p hp), ?_⟩) (fun h' tk dr F' => retTo (hret h' tk dr _ F')) ?_)
    · rw [resP_hit hSi hno (by rw [hok, hb])]
      exact ⟨_, hits.mono sub2, .inl ⟨rfl, rfl⟩⟩
    intro hb h6 tk6 dr6 F6 N6
    refine nextTo (wpAny_execs_nil ?_)
    refine ⟨h6, tk6, dr6, _, [(I12, oI)], (Ds, listOf (List.toArray ws) c) :: (Du, listOf (List.toArray (dv ++ [.ref P])) (q + 1)) :: (((P, tupOf [.ref a, .ref D]) :: (D, listOf (List.toArray ts) n) :: ex) ++ led), rfl, F6, news_sub N6 (by walk_at "m sub"), ?_, ⟨oI, rfl, ic, idt, .inr ⟨_, .head _, rfl, _, rfl⟩⟩, dv ++ [.ref P], q + 1, _, rfl, hits, ?_, ?_, ?_⟩
    · intro p hp hm
      have e : p.1 = I12 := by simpa using hm
      simp only [List.cons_append, List.mem_cons] at hp
      rcases hp with rfl | rfl | rfl | rfl | hp
      · exact nI _ (.head _) e
      · exact nI (Du, listOf (List.toArray dv) q) (.tail _ (.head _)) e
      · have := ltP (I12, oI) (.tail _ (.tail _ (.tail _ (.head _))))
        rw [← e] at this; exact absurd this (Nat.lt_irrefl _)
      · exact neD (I12, oI) (.tail _ (.tail _ (.head _))) e.symm
      · exact nI p (.tail _ (.tail _ hp)) e
    · intro k hkm
      rw [List.take_add_one, hSi] at hkm
      rcases List.mem_append.mp hkm with hkm | hkm
      · exact hno k hkm
      · have : k = k0 := by simpa using hkm
        rw [this, hok]; exact hb
    · intro p hp
      rcases List.mem_cons.mp hp with rfl | hp
      · exact Nat.ne_of_gt (ltP (Du, _) (.head _))
      · rcases List.mem_cons.mp hp with rfl | hp
        · exact (neD (Du, _) (.tail _ (.head _))).symm
        · exact hex p hp
    · intro y y1 y2
      simp only [if_neg y1, if_neg y2]
      exact hmy y y1 y2
  · rintro m₁ nw h2 tk2 dr2 ⟨dv, q, ex, rfl, hit, hno, hex, hmy⟩ F2 N2
    have e16 : S.take ws.toArray.size = S := List.take_of_length_le (by rw [hS.len, List.size_toArray, hlen]; exact Nat.le_refl _)
    rw [e16] at hit hno
    exact h _ _ _ m₁ dv q ((Ds, listOf (List.toArray ws) c) :: (ex ++ led)) F2 ((hmy _ (by decide) (by decide)).trans hm4) ((hmy _ (by decide) (by decide)).trans hm5) (news_sub N2 (by walk_at "m sub")) (fun p hp => .tail _ (List.mem_append.mpr (.inr hp))) (hit.mono fun p hp => .tail _ hp) hno
end Mine
end
section
open PySem PySem.W PyProof.Rows PySem.Calls
open PyProof.Rows.LCg (lst NsObj SrcAt)
open PySem.SeqAt
set_option Elab.async false
set_option maxRecDepth 100000
set_option maxHeartbeats 8000000
namespace Mine
theorem set_back_MLawAll : True := by w_top off; trivial
theorem words_MLawAll : True := by
  k_with_none
  k_with "m get" => ((repeat (first | assumption | exact get_eq | refine get_ne (by decide) ?_ | rfl)))
  k_with "eval Name" => (((with_reducible show wpAny _ _ (eval (Expr.Name _ _) (envOf _ _ _ _ _)) _ _ _); k_dflt (refine' ld ?z9k1 ?z9k2 ?_; (case z9k1 => k_asm); (case z9k2 => walk_at "m get"); k_whole)))
  k_with "subscriptTail" => (((with_reducible show wpAny _ _ (subscriptTail _ _ (Value.ref _) (Value.int _ _)) _ _ _); (refine' item_h ?z9k1 ?z9k2 ?z9k3 ?z9k4 ?_; (case z9k1 => assumption); (case z9k2 => omega); (case z9k3 => omega); (case z9k4 => assumption); k_whole)))
  k_with "setItem ref int" => ((((with_reducible show wpAny _ _ (setItem (Value.ref _) (Value.int _ _) _) _ _ _); (refine' setItem_h ?z9k1 ?z9k2 ?z9k3 ?z9k4 ?z9k5 ?z9k6 ?_; (case z9k1 => assumption); (case z9k2 => assumption); (case z9k3 => assumption); (case z9k4 => omega); (case z9k5 => assumption); (case z9k6 => omega); k_whole); intro h' F' N'); revert h' F' N'; intro _ _ _))
  k_with "call builtin:len" => (((with_reducible show wpAny _ _ (call (Value.builtin _) [Value.ref _]) _ _ _); (refine' len_h ?z9k1 ?z9k2 ?_; (case z9k1 => assumption); (case z9k2 => first | assumption | (simp only [List.length_append, List.length_cons, List.length_nil]; omega)); k_whole)))
  k_with "call builtin:list.append" => ((((with_reducible show wpAny _ _ (call (Value.builtin _) [Value.ref _, _]) _ _ _); (refine' append_h ?z9k1 ?z9k2 ?z9k3 ?z9k4 ?_; (case z9k1 => assumption); (case z9k2 => assumption); (case z9k3 => assumption); (case z9k4 => omega); k_whole); intro h' F' N'); revert h' F' N'; intro _ _ _))
  k_with "call builtin:list.pop" => ((((with_reducible show wpAny _ _ (call (Value.builtin _) [Value.ref _]) _ _ _); (refine' pop_h ?z9k1 ?z9k2 ?z9k3 ?z9k4 ?_; (case z9k1 => assumption); (case z9k2 => assumption); (case z9k3 => assumption); (case z9k4 => omega); k_whole); intro h' F' N'); revert h' F' N'; intro _ _ _))
  k_with "eval Name" => (((with_reducible show wpAny _ _ (eval (Expr.Name _ _) (compEnvC _ _ _ _)) _ _ _); k_dflt (refine' PySem.W.LCgL.ld_own ?z9k1 ?z9k2 ?z9k3 ?z9k4 ?_; (case z9k1 => k_asm); (case z9k2 => exact List.Mem.head _); (case z9k3 => assumption); (case z9k4 => walk_at "m get"); k_whole)))
  k_with "m mem" => (first | assumption | exact List.Mem.head _ | exact List.mem_append.mpr (Or.inl (by assumption)) | exact List.mem_append.mpr (Or.inr (by assumption)) | (refine List.Mem.tail _ ?_; walk_at "m mem"))
  k_with "subscriptTail" => (((with_reducible show wpAny _ _ (subscriptTail _ _ (Value.ref _) (Value.int _ _)) _ _ _); (refine' item_m ?z9k1 ?z9k2 ?z9k3 ?z9k4 ?z9k5 ?_; (case z9k1 => assumption); (case z9k5 => assumption); (case z9k2 => walk_at "m mem"); (case z9k3 => omega); (case z9k4 => omega); k_whole)))
  k_with "m sub" => ((intro q9 hq9; simp only [List.cons_append, List.nil_append, List.append_assoc, List.mem_cons, List.mem_append, List.not_mem_nil, or_false, false_or] at hq9 ⊢; grind))
  k_with "truthy ref" => ((k_dflt (refine' truthy_D ?z9N ?z9d ?z9m ?z9s ?z9f ?_; (case z9N => assumption); (case z9d => assumption); (case z9m => walk_at "m mem"); (case z9s => assumption); (case z9f => first | assumption | decide | omega); k_whole)))
  k_with "truthy ref" => ((k_dflt (refine' truthy_L ?z9N ?z9m ?z9f ?_; (case z9N => assumption); (case z9m => walk_at "m mem"); (case z9f => first | assumption | omega); k_whole)))
  k_with "call type:set" => ((((with_reducible show wpAny _ _ (call (Value.type _) [Value.ref _]) _ _ _); k_dflt (refine' set_new_strsN ?z9F ?z9N ?z9m ?z9v ?z9n ?z9hh ?z9f ?_; (case z9F => assumption); (case z9N => assumption); (case z9m => walk_at "m mem"); (case z9v => assumption); (case z9n => assumption); (case z9hh => exact rfl); (case z9f => first | assumption | omega); k_whole); intro h' tk' D' o' F' N' hS' l1'; (try k_lt l1')); revert h' tk' D' o' F' N' hS' l1'; intro _ _ _ _ _ _ _ _))
  k_with "call type:set nil nil" => (((k_dflt (refine' set_new_0 ?z9F ?z9N ?_; (case z9F => assumption); (case z9N => assumption); k_whole); intro h' D' o' F' N' hS' l1'; (try k_lt l1')); revert h' D' o' F' N' hS' l1'; intro _ _ _ _ _ _ _))
  k_with "getItem ref str" => (((k_dflt (refine' getItem_D ?z9N ?z9d ?z9f ?z9m ?z9s ?z9l ?_; (case z9N => assumption); (case z9d => assumption); (case z9f => assumption); (case z9m => walk_at "m mem"); (case z9s => assumption); (case z9l => assumption); k_whole); intro v' hv'); revert v' hv'; intro _ _))
  k_with "compareOp In str ref" => ((k_dflt (refine' in_set ?z9N ?z9m ?z9d ?_; (case z9N => assumption); (case z9d => assumption); (case z9m => walk_at "m mem"); k_whole)))
  k_with "setItem ref str" => (((k_dflt (refine' setItem_K PyProof.V.same_str (strKind_is _ _ _ _) ?z9v ?z9F ?z9N ?z9U ?z9d ?z9f ?_ ?z9z; (case z9F => assumption); (case z9N => assumption); (case z9U => k_updF); (case z9d => assumption); (case z9f => assumption); (case z9z => (rw [sizeLine_eq]; omega)); (case z9v => k_flat)); intro h' o' F' N' hd' hf'; (try dsimp only at N')); revert h' o' F' N' hd' hf'; intro _ _ _ _ _ _))
  k_with "binaryOp Add str str" => (((refine PyProof.Rows.add_str (hsz := ?z9hsz) ?_); (case z9hsz => (have e1 : (Str.ofString ".").length = 1 := by decide); (have e2 : (Str.ofString "/").length = 1 := by decide); (have e3 : (Str.ofString "/.").length = 2 := by decide); rw [sizeLine_eq]; omega); intro _ _))
  k_with "eval Name" => (((with_reducible show wpAny _ _ (eval (Expr.Name _ _) (compEnvC _ _ _ _)) _ _ _); k_dflt (refine' PySem.W.LCgL.ld_own ?z9k1 ?z9k2 ?z9k3 ?z9k4 ?_; (case z9k1 => k_asm); (case z9k2 => walk_at "m mem"); (case z9k3 => assumption); (case z9k4 => walk_at "m get"); k_whole)))
  k_with "eval Name" => (((with_reducible show wpAny _ _ (eval (Expr.Name _ _) (envOfC _ _ _ _ _)) _ _ _); k_dflt (refine' nameX_L ?z9F ?z9v ?_ ?z9a ?z9b; (case z9F => k_asm); (case z9a => rfl); (case z9b => rfl); (case z9v => walk_at "m get"); k_whole)))
  k_with "callWith" => (first | with_reducible refine PyProof.Rows.callWith_method0 ?_ | with_reducible refine PyProof.Rows.callWith_builtin1 ?_ | with_reducible refine PyProof.Rows.callWith_method1 ?_)
  trivial
theorem law_all {w : World} {s : Shared} {g : Heap} {L fa : Addr} {cd : Value} {m mg mb : Str → Option Value} {mean : ExcName → Option Value} {p : Program} {loose : List Str}
 (X : (Mine.hd.heap_1 w.params).In g) (T : Top p loose mean mg mb g) (F : Fr g L s.heap m) {sc : Addr} {sv : List Value} {ns : List Int} {oN oP oK oS : Obj} {vN vP vK : Option Value} (N : News g L s.heap [(L + 1 + 1 + 1 + 1, oN), (L + 1 + 1 + 1, oP), (L + 1 + 1, oK), (L + 1, oS)]) (hN : oN.data = .cell vN) (hP : oP.data = .cell vP) (hK : oK.data = .cell vK) (hS : oS.data = .cell (some (.ref sc))) (hsc : g.IsList sc sv.toArray) (hi : IntsAre sv ns) (hl : ns.length ≤ 63) {Q : Flow → Shared → Prop}
 (hret : ∀ h' tk dr m', Fr g L h' m' → Q (.ret (.bool true)) { s with heap := h', toks := tk, drawn := dr }) :
 wpAny (model PySem.Challenge.rw_nq0047_02.row.prog w) (lAr L fa cd) (execs (lTurn 0) (lEnv L fa cd)) Q NoE s := by
  have e : lTurn 0 = [lStmt 0, lStmt 1, lStmt 2, lStmt 3, lStmt 4, lStmt 5, lStmt 6, lStmt 7, lStmt 8, lStmt 9] := rfl
  rw [e]
  refine stmts (law0 X T F N hS hP hsc hi hl ?_)
  intro h0 tk0 dr0 oP0 pa pv F0 N0 dP0 hpv ne0
  clear F N
  refine nextTo ?_
  (try dsimp only)
  refine stmts ?_
  with_reducible refine law1 X T F0 N0 ?_
  intro h1 tk1 ca cvs q new F1 N1 hca hcs lt1
  clear F0 N0
  refine nextTo ?_
  (try dsimp only)
  refine stmts ?_
  with_reducible refine law2 X T F1 N1 ?_
  intro h2 tk2 W F2 N2 lt2
  clear F1 N1
  replace N2 : News g L h2 ((W, listOf #[] 0) :: (L + 1 + 1 + 1 + 1, oN) :: (L + 1 + 1 + 1, oP0) :: (L + 1 + 1, oK) :: (L + 1, oS) :: ((pa, lst pv) :: new)) := news_sub N2 (by walk_at "m sub")
  have mN : (L + 1 + 1 + 1 + 1, oN) ∈ (pa, lst pv) :: [(L + 1 + 1 + 1 + 1, oN), (L + 1 + 1 + 1, oP0), (L + 1 + 1, oK), (L + 1, oS)] := .tail _ (.head _)
  have mK : (L + 1 + 1, oK) ∈ (pa, lst pv) :: [(L + 1 + 1 + 1 + 1, oN), (L + 1 + 1 + 1, oP0), (L + 1 + 1, oK), (L + 1, oS)] := .tail _ (.tail _ (.tail _ (.head _)))
  have hW4 : L + 1 + 1 + 1 + 1 < W := lt2 (L + 1 + 1 + 1 + 1, oN) (List.mem_append.mpr (.inr mN))
  refine nextTo ?_
  (try dsimp only)
  refine stmts ?_
  with_reducible refine law3 X T F2 N2 hS hK hsc hi hl ?_ hW4 ?_ ?_ ?_
  · exact get_eq
  · intro p hp
    refine Nat.ne_of_lt (lt2 p ?_)
    rcases List.mem_cons.mp hp with rfl | hp
    · exact List.mem_append.mpr (.inr (.head _))
    · exact List.mem_append.mpr (.inl hp)
  · intro p hp
    rcases List.mem_cons.mp hp with rfl | hp
    · exact (ne0 (L + 1 + 1, oK) (.tail _ (.tail _ (.head _)))).symm
    · exact Nat.ne_of_gt (lt1 (L + 1 + 1, oK) mK p hp)
  intro h3 tk3 dr3 m3 oK3 vK3 wv wi qw F3 m3w m3y N3 dK3 hwi hwl
  clear F2 N2
  replace N3 : News g L h3 ((L + 1 + 1 + 1 + 1, oN) :: (L + 1 + 1 + 1, oP0) :: (L + 1 + 1, oK3) :: (L + 1, oS) :: ((W, listOf (List.toArray wv) qw) :: (pa, lst pv) :: new)) := news_sub N3 (by walk_at "m sub")
  have c3 : m3 (Str.ofString "calls") = some (.ref ca) := (m3y _ (by decide) (by decide)).trans (by walk_at "m get")
  have hpl : (pricesP ns).length = 4 := by simp [pricesP]
  have hca3 : (ca, listOf (List.toArray cvs) q) ∈ (W, listOf (List.toArray wv) qw) :: (pa, lst pv) :: new := .tail _ (.tail _ hca)
  have hcs3 : CallsOk cvs ((W, listOf (List.toArray wv) qw) :: (pa, lst pv) :: new) callsL := ⟨hcs.1, fun j hj => by obtain ⟨a, pv, u, x1, x2, x3⟩ := hcs.2 j hj; exact ⟨a, pv, u, x1, .tail _ (.tail _ x2), x3⟩⟩
  have hWm : (W, listOf (List.toArray wv) qw) ∈ (W, listOf (List.toArray wv) qw) :: (pa, lst pv) :: new := .head _
  have hpm : (pa, lst pv) ∈ (W, listOf (List.toArray wv) qw) :: (pa, lst pv) :: new := .tail _ (.head _)
  have r4 : ∀ p ∈ (W, listOf (List.toArray wv) qw) :: (pa, lst pv) :: new, p.1 ≠ L + 1 + 1 + 1 + 1 := by
    intro p hp
    rcases List.mem_cons.mp hp with rfl | hp
    · exact Nat.ne_of_gt hW4
    · rcases List.mem_cons.mp hp with rfl | hp
      · exact (ne0 (L + 1 + 1 + 1 + 1, oN) (.head _)).symm
      · exact Nat.ne_of_gt (lt1 _ mN p hp)
  generalize hrest : (W, listOf (List.toArray wv) qw) :: (pa, lst pv) :: new = rest at N3 hca3 hcs3 hWm hpm r4
  obtain ⟨S, hSo⟩ := sorted_ex (pricesP ns)
  refine nextTo ?_
  (try dsimp only)
  refine stmts ?_
  with_reducible refine law4 (pa := pa) (ca := ca) (wa := W) X T F3 N3 hN dP0 dK3 hS c3 m3w hpm hca3 hWm hcs3 hpv hpl (prices_pos ns) hwi hwl hSo ?_
  intro h4 tk4 dr4 Tl tv nt new4 F4 N4 hTl hT ne4
  clear F3 N3
  have up4 : ∀ p ∈ rest, p ∈ new4 ++ rest := fun p hp => List.mem_append.mpr (.inr hp)
  replace r4 : ∀ p ∈ new4 ++ rest, p.1 ≠ L + 1 + 1 + 1 + 1 := fun p hp => (List.mem_append.mp hp).elim (ne4 p) (r4 p)
  replace hca3 := up4 _ hca3
  replace hWm := up4 _ hWm
  replace hpm := up4 _ hpm
  replace hcs3 : CallsOk cvs (new4 ++ rest) callsL := ⟨hcs3.1, fun j hj => by obtain ⟨a, pv, u, x1, x2, x3⟩ := hcs3.2 j hj; exact ⟨a, pv, u, x1, up4 _ x2, x3⟩⟩
  generalize hrest4 : new4 ++ rest = rest4 at N4 hTl hT hca3 hWm hpm hcs3 r4
  refine nextTo ?_
  (try dsimp only)
  refine stmts ?_
  with_reducible refine law5 X T F4 N4 ?_
  intro h5 tk5 Pr F5 N5 lt5
  clear F4 N4
  refine nextTo ?_
  (try dsimp only)
  refine stmts ?_
  with_reducible refine law6 (pa := pa) X T F5 N5 hN dP0 hpm hpv hpl ?_ lt5 r4 ?_
  · exact get_eq
  intro h6 tk6 dr6 m6 oN6 rv q6 new6 F6 m6y N6 hk6
  clear F5 N5
  have up6 : ∀ p ∈ rest4, p ∈ (Pr, listOf (List.toArray rv) q6) :: (L + 1 + 1 + 1 + 1, oN6) :: (L + 1 + 1 + 1, oP0) :: (L + 1 + 1, oK3) :: (L + 1, oS) :: (new6 ++ rest4) := fun p hp => .tail _ (.tail _ (.tail _ (.tail _ (.tail _ (List.mem_append.mpr (.inr hp))))))
  have hcs6 : CallsOk cvs ((Pr, listOf (List.toArray rv) q6) :: (L + 1 + 1 + 1 + 1, oN6) :: (L + 1 + 1 + 1, oP0) :: (L + 1 + 1, oK3) :: (L + 1, oS) :: (new6 ++ rest4)) callsL := ⟨hcs3.1, fun j hj => by obtain ⟨a, pv, u, x1, x2, x3⟩ := hcs3.2 j hj; exact ⟨a, pv, u, x1, up6 _ x2, x3⟩⟩
  refine nextTo ?_
  (try dsimp only)
  refine stmts ?_
  with_reducible refine law7 X T F6 N6 ?_
  intro h7 tk7 Du F7 N7 lt7
  clear F6 N6
  have g1 : m6 (Str.ofString "pairs") = some (.ref Pr) := (m6y _ (by decide)).trans (by walk_at "m get")
  have g2 : m6 (Str.ofString "calls") = some (.ref ca) := (m6y _ (by decide)).trans (by walk_at "m get")
  have g3 : m6 (Str.ofString "wishes") = some (.ref W) := (m6y _ (by decide)).trans (by walk_at "m get")
  have g4 : m6 (Str.ofString "told") = some (.ref Tl) := (m6y _ (by decide)).trans (by walk_at "m get")
  have hk6' : KeysIn ((Pr, listOf (List.toArray rv) q6) :: (L + 1 + 1 + 1 + 1, oN6) :: (L + 1 + 1 + 1, oP0) :: (L + 1 + 1, oK3) :: (L + 1, oS) :: (new6 ++ rest4)) rv (subsL.map (keyOf (pricesP ns))) := hk6.mono fun p hp => .tail _ (.tail _ (.tail _ (.tail _ (.tail _ hp))))
  have hT6 := hT.seq fun p hp _ => up6 p hp
  have hDu7 : ∀ p ∈ (Pr, listOf (List.toArray rv) q6) :: (L + 1 + 1 + 1 + 1, oN6) :: (L + 1 + 1 + 1, oP0) :: (L + 1 + 1, oK3) :: (L + 1, oS) :: (new6 ++ rest4), p.1 ≠ Du := fun p hp => Nat.ne_of_lt (lt7 p hp)
  refine nextTo ?_
  (try dsimp only)
  refine stmts ?_
  with_reducible refine law8 (Pr := Pr) (ca := ca) (wa := W) (Tl := Tl) (qr := q6) X T F7 N7 hDu7 ?_ ?_ ?_ ?_ ?_ ?_ hk6' (up6 _ hca3) hcs6 (up6 _ hWm) hwi hwl (up6 _ hTl) hT6 hSo ?_ ?_
  · walk_at "m get"
  · walk_at "m get"
  · walk_at "m get"
  · walk_at "m get"
  · exact get_eq
  · exact .head _
  · exact fun h' tk dr m' F' => retTo (hret h' tk dr m' F')
  intro h8 tk8 dr8 m8 dv q8 led8 F8 e1 e2 N8 sub8 hits hno
  rw [resP_none hno] at hT
  have hl8 : dv.length < 100 := by rw [hits.1, hSo.len]; decide
  have hT8 : ToldIn ((Du, listOf (List.toArray dv) q8) :: led8) tv (S, false) := hT.seq fun p hp _ => .tail _ (sub8 _ (up6 p hp))
  have hI8 : ItemsIn ((Du, listOf (List.toArray dv) q8) :: led8) dv S := hits.mono fun p hp => .tail _ hp
  refine nextTo ?_
  (try dsimp only)
  refine stmts ?_
  with_reducible refine law9 (Du := Du) (Tl := Tl) (ks := S) X T F8 N8 e1 e2 (List.Mem.tail _ (sub8 _ (up6 _ hTl))) (List.Mem.head _) hl8 hT8 hI8 ?_
  intro h9 tk9 dr9 F9
  exact retTo (hret h9 tk9 dr9 _ F9)
end Mine
end
section
open PySem PySem.W PyProof.Rows PySem.Calls PyProof.Rows.LCg
open Mine
set_option Elab.async false
set_option maxRecDepth 100000 in
set_option maxHeartbeats 1500000 in
theorem PySem.Challenge.cw_nq0047_02_holds : PySem.Challenge.rw_nq0047_02.Holds := by
  refine holds_law said fun _ => Mine.hd ?_
  k_fill
  intro w s₀ s₁ mg mb G Y fa o pm cd doc dV kV ho hd hcd hD hmg hg args vals as hpre hlay hrd hwl hlo
  have KX := kIn_of Y
  have X := (Ground.X G).1
  have V := (Ground.X G).2
  refine Ground.open G ?_
  intro T B D TE TW
  try (refine guard_noD D (by decide +kernel) ?_; clear D)
  obtain ⟨_, _, M⟩ := bmod_of_top T
  have TA := at_of_top T
  try (obtain ⟨_, _, he, B0⟩ := based_of_top T rfl hmg ho hd; have he' : cd = _ := he; subst he'; clear he)
  clear hmg
  wrow_args hpre hlay hrd hwl hlo
  all_goals (
    first | refine callC_kw (enter_call ?_) | refine enter_call ?_ | refine callC_kw (enter_callW ?_) | refine enter_callW ?_ | w_how
    w_top on
    try refine codeAny_mono ?_ (fun _ _ g => GoodW.toG g)
    have K0 := below_caller (Top.heap T)
    w_call any ho hd hcd hD T F
    clear hd TA
    k_drop
    skip)
  (all_goals try k_fold)
  rename_i a1 a2 a3 a4 ns hs hlay0 hL1 hr1 hl2 a5 a6 sc sv a7 hL ra w1 r0 hI hr hc1 hc2 h1 tk1 oN oP oK oS dN dP dK dS N0 X0
  refine wpAny_noRaise ?_
  refine law_all KX T F N0 dN dP dK dS hL hI (by omega) ?_
  intro h' tk dr m' F'
  show GoodW _ _ _ _ _ (.ok (.ret (.bool true))) _
  refine goodW_bool F' hg (raisesW_false ?_) ?_
  · wrow_none_raised
  · wrow_post
end
