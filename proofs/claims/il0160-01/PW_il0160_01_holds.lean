import PyProof.Rows.All
import Wide.All
import OpenK.AllK
import Wide.FinOn
import KE.FramesApart
import PyProof.EqAt
import PyProof.IsiH_list
import PyProof.NeKinds
import KE.BitLaws
import Lean
import PySem.Challenge.RW_il0160_01
set_option Elab.async false
section
open PySem PySem.W PyProof.Rows
set_option maxRecDepth 100000
set_option maxHeartbeats 8000000
namespace Mine
open_top hd for PySem.Challenge.rw_il0160_01
end Mine
end
section
open PySem PySem.W PyProof.Rows
example (prog : Program) (w : World) (A : Around) (E : Value → Shared → Prop) (s : Shared) (Q : Value → Shared → Prop) (h : wpAny (model prog w) A (compareOp .Eq (.int 1 0) (.int 2 0)) Q E s) : wpAny (model prog w) A (compareOp .Eq (.int 1 0) (.int 2 0)) Q E s := by
  w_top off
  k_with_none
  first
    | (walk1; fail)
    | exact h
end
section
open PySem PySem.W PyProof.Rows PySem.Spec PySem.Calls
set_option Elab.async false
set_option maxRecDepth 100000
namespace Mine
section
variable {α : Type} {p a b c d e f g : α} {r : List α}
theorem mo1 (h : p ∈ a :: r) : p = a ∨ p ∈ r := List.mem_cons.mp h
theorem mo2 (h : p ∈ a :: b :: r) : p = a ∨ p = b ∨ p ∈ r := (mo1 h).imp id mo1
theorem mo3 (h : p ∈ a :: b :: c :: r) : p = a ∨ p = b ∨ p = c ∨ p ∈ r := (mo1 h).imp id mo2
theorem mo4 (h : p ∈ a :: b :: c :: d :: r) : p = a ∨ p = b ∨ p = c ∨ p = d ∨ p ∈ r := (mo1 h).imp id mo3
theorem mo5 (h : p ∈ a :: b :: c :: d :: e :: r) : p = a ∨ p = b ∨ p = c ∨ p = d ∨ p = e ∨ p ∈ r := (mo1 h).imp id mo4
theorem mo6 (h : p ∈ a :: b :: c :: d :: e :: f :: r) : p = a ∨ p = b ∨ p = c ∨ p = d ∨ p = e ∨ p = f ∨ p ∈ r := (mo1 h).imp id mo5
theorem mc1 (h : p ∈ [a]) : p = a := List.mem_singleton.mp h
theorem mc2 (h : p ∈ [a, b]) : p = a ∨ p = b := (mo1 h).imp id mc1
theorem mc3 (h : p ∈ [a, b, c]) : p = a ∨ p = b ∨ p = c := (mo1 h).imp id mc2
theorem mc4 (h : p ∈ [a, b, c, d]) : p = a ∨ p = b ∨ p = c ∨ p = d := (mo1 h).imp id mc3
theorem mc5 (h : p ∈ [a, b, c, d, e]) : p = a ∨ p = b ∨ p = c ∨ p = d ∨ p = e := (mo1 h).imp id mc4
theorem mi0 : p ∈ p :: r := .head _
theorem mi1 : p ∈ a :: p :: r := .tail _ mi0
theorem mi2 : p ∈ a :: b :: p :: r := .tail _ mi1
theorem mi3 : p ∈ a :: b :: c :: p :: r := .tail _ mi2
theorem mi4 : p ∈ a :: b :: c :: d :: p :: r := .tail _ mi3
theorem mi5 : p ∈ a :: b :: c :: d :: e :: p :: r := .tail _ mi4
theorem mt2 (h : p ∈ r) : p ∈ a :: b :: r := .tail _ (.tail _ h)
theorem mt3 (h : p ∈ r) : p ∈ a :: b :: c :: r := .tail _ (mt2 h)
theorem mt4 (h : p ∈ r) : p ∈ a :: b :: c :: d :: r := .tail _ (mt3 h)
theorem mt5 (h : p ∈ r) : p ∈ a :: b :: c :: d :: e :: r := .tail _ (mt4 h)
end
section
variable {prog : Program} {w : World} {A : Around} {E : Value → Shared → Prop} {s : Shared} {env : Env} {h₀ : Heap} {target : PySem.Expr} {body orelse : List Stmt} {Q : Flow → Shared → Prop}

noncomputable def TurnEnd (h₀ : Heap) (L : Addr) (wr : List Addr) (own : List (Addr × Obj)) (J : (Str → Option Value) → List (Addr × Obj) → Prop) (s₁ s₂ : Shared) : Prop :=
  ∃ h' tk m' nx, s₂ = { s₁ with heap := h', toks := tk } ∧ Fr h₀ L h' m' ∧ News h₀ L h' (own ++ nx) ∧ (∀ p ∈ nx, p.1 ∉ wr) ∧ J m' nx
noncomputable def TurnPost (h₀ : Heap) (L : Addr) (wr : List Addr) (own : List (Addr × Obj)) (J : (Str → Option Value) → List (Addr × Obj) → Prop) (s₁ : Shared) (Q : Flow → Shared → Prop) (f : Flow) (s₂ : Shared) : Prop :=
  match f with
  | .ret v => Q (.ret v) s₂
  | .brk => Q .next s₂
  | .next => TurnEnd h₀ L wr own J s₁ s₂
  | .cont => TurnEnd h₀ L wr own J s₁ s₂

noncomputable def LoopE (prog : Program) (w : World) (A : Around) (h₀ : Heap) (env : Env) (target : PySem.Expr) (body orelse : List Stmt) (Q : Flow → Shared → Prop) (E : Value → Shared → Prop) (it : Value) (s₂ : Shared) : Prop :=
  ∃ (I : Addr) (fp wr : List Addr) (n : Nat) (P Md : Nat → Value → Heap → Prop) (St : Nat → Heap → Prop) (m : Str → Option Value) (news : List (Addr × Obj)) (J : Nat → (Str → Option Value) → List (Addr × Obj) → Prop),
    it = .ref I ∧ KTurns prog w A target I fp wr n P Md St ∧ env.locals ∉ fp ∧ (∀ b ∈ wr, h₀.get? b = none) ∧ (∀ p ∈ news, p.1 ∉ wr) ∧ St 0 s₂.heap ∧ Fr h₀ env.locals s₂.heap m ∧ News h₀ env.locals s₂.heap news ∧ J 0 m news ∧
    (∀ i v m₁ nx h tk own, i < n → P i v h → J i m₁ nx → (∀ p ∈ nx, p.1 ∉ wr) → (∀ p ∈ own, p.1 ∈ fp) → (∀ b ∈ fp, h₀.get? b = none → ∀ o, h.get? b = some o → (b, o) ∈ own) → St (i + 1) h →
      Fr h₀ env.locals h m₁ → News h₀ env.locals h (own ++ nx) →
      wpAny (model prog w) A (assign target env v) (fun _ s₃ => wpAny (model prog w) A (execs body env) (TurnPost h₀ env.locals wr own (J (i + 1)) { s₂ with heap := h, toks := tk } Q) E s₃) E { s₂ with heap := h, toks := tk }) ∧
    ∀ h tk m' nx, Fr h₀ env.locals h m' → News h₀ env.locals h nx → (∀ p ∈ nx, p.1 ∉ wr) → J n m' nx → wpAny (model prog w) A (execs orelse env) Q E { s₂ with heap := h, toks := tk }

noncomputable def LInv (h₀ : Heap) (L : Addr) (wr : List Addr) (n : Nat) (St : Nat → Heap → Prop) (J : Nat → (Str → Option Value) → List (Addr × Obj) → Prop) (s₂ : Shared) (k : Nat) (t : Shared) : Prop :=
  ∃ h tk m nx i, t = { s₂ with heap := h, toks := tk } ∧ St i h ∧ Fr h₀ L h m ∧ News h₀ L h nx ∧ (∀ p ∈ nx, p.1 ∉ wr) ∧ J i m nx ∧ i + k = n + 1 ∧ i ≤ n
theorem for_loopE {iter : PySem.Expr} {pos : Pos} (h : wpAny (model prog w) A (eval iter env) (fun xv s₁ => wpAny (model prog w) A (pyIter xv) (fun it s₂ => LoopE prog w A h₀ env target body orelse Q E it s₂) E s₁) E s)
    (hs : ∀ x, foldedSetIterable iter env x = pure x) (hE : PassesOwn (model prog w) A env E) :
    wpAny (model prog w) A (exec (.For target iter body orelse pos) env) Q E s := by
  refine wpAny_For (wpAny_mono h (fun xv s₁ h₁ => wpAny_mono h₁ (fun it s₂ h₂ => ?_) fun _ _ e => e) fun _ _ e => e) hs
  obtain ⟨I, fp, wr, n, P, Md, St, m₀, n₀, J, rfl, W, hLf, hwr, hn₀, hst, F₀, N₀, h0, step, last⟩ := h₂
  have hLw : env.locals ∉ wr := fun q => hLf (W.sub _ q)
  have old : ∀ b o, h₀.get? b = some o → b ∉ wr := fun b o e q => by rw [hwr b q] at e; cases e
  have move : ∀ {h h' : Heap} {m : Str → Option Value} {nx : List (Addr × Obj)}, (∀ b o, b ∉ wr → h.get? b = some o → h'.get? b = some o) → Fr h₀ env.locals h m → News h₀ env.locals h nx → (∀ p ∈ nx, p.1 ∉ wr) →
      Fr h₀ env.locals h' m ∧ News h₀ env.locals h' nx := fun k F N hn =>
    ⟨⟨F.ns.at' fun o e => k _ o hLw e, fun b o e => k b o (old b o e) (F.keep b o e), F.above⟩, fun p hp => ⟨k _ _ (hn p hp) (N p hp).1, (N p hp).2⟩⟩
  refine codeAny_forLoop_any (LInv h₀ env.locals wr n St J s₂) ?_ (n + 1)
    ⟨s₂.heap, s₂.toks, m₀, n₀, 0, rfl, hst, F₀, N₀, hn₀, h0, Nat.zero_add _, Nat.zero_le _⟩
  rintro k t ⟨h, tk, m, nx, i, rfl, sti, F, N, hn, hJ, hk, hi⟩
  by_cases lt : i < n
  · refine W.item i _ _ _ lt sti fun v h' tk' hm k₁ => ?_
    refine W.go i v _ _ _ hm fun h'' hP st'' k₂ => ?_
    obtain ⟨F₂, N₂⟩ := move (fun b o q e => k₂ b o q (k₁ b o q e)) F N hn
    have NO : News h₀ env.locals h'' (PyProof.Rows.ownOf h₀ fp h'') := news_ownOf hLf
    have all : ∀ b ∈ fp, h₀.get? b = none → ∀ o, h''.get? b = some o → (b, o) ∈ PyProof.Rows.ownOf h₀ fp h'' := fun b hb hz o e => mem_ownOf hb hz e
    refine wpAny_mono (step i v m nx h'' tk' _ lt hP hJ hn ownOf_sub all st'' F₂ (NO.append N₂)) (fun _ t₁ q₁ => wpAny_mono q₁ (fun f t₂ q₂ => ?_) hE) hE
    have again : TurnEnd h₀ env.locals wr (PyProof.Rows.ownOf h₀ fp h'') (J (i + 1)) { s₂ with heap := h'', toks := tk' } t₂ →
        ∃ k', k' < k ∧ LInv h₀ env.locals wr n St J s₂ k' t₂ := by
      rintro ⟨h₃, tk₃, m₃, n₃, rfl, F₃, N₃, hn₃, J₃⟩
      refine ⟨k - 1, by omega, h₃, tk₃, m₃, n₃, i + 1, rfl, W.frame _ _ _ st'' fun b hb o e => ?_, F₃, N₃.right, hn₃, J₃, by omega, lt⟩
      cases q : h₀.get? b with
      | some o' => rw [F₂.keep b o' q] at e; cases e; exact F₃.keep b _ q
      | none => exact (N₃ _ (List.mem_append_left _ (all b hb q o e))).1
    cases f with
    | ret v => exact q₂
    | brk => exact q₂
    | next => exact again q₂
    | cont => exact again q₂
  · have e : i = n := by omega
    subst e
    refine W.done _ _ _ sti fun h' tk' k₁ => ?_
    obtain ⟨F₁, N₁⟩ := move k₁ F N hn
    exact wpAny_mono (last h' tk' m nx F₁ N₁ hn hJ) (fun _ _ x => x) hE
end
end Mine
end
section
open PySem PySem.W PyProof.Rows
example (prog : Program) (w : World) (A : Around) (E : Value → Shared → Prop) (s : Shared) (Q : Value → Shared → Prop) (h : wpAny (model prog w) A (compareOp .Eq (.int 1 0) (.int 2 0)) Q E s) : wpAny (model prog w) A (compareOp .Eq (.int 1 0) (.int 2 0)) Q E s := by
  w_top off
  k_with_none
  first
    | (walk1; fail)
    | exact h
end
section
open PySem PySem.W PyProof.Rows PySem.Spec PySem.Calls
set_option Elab.async false
namespace Mine
noncomputable def NameOk (k : Str) : Prop := ∃ c : Nat, k = ⟨#[c]⟩ ∧ (97 ≤ c ∧ c ≤ 99 ∨ 116 ≤ c ∧ c ≤ 131)
noncomputable def NamesOk (l : List (Str × Int)) : Prop := ∀ p ∈ l, NameOk p.1
theorem nameOk_chr (y : Int) : NameOk ⟨#[(116 + Int.fmod y 16).toNat]⟩ := by
  have h0 : 0 ≤ Int.fmod y 16 := Int.fmod_nonneg_of_pos y (by decide)
  have h1 : Int.fmod y 16 < 16 := Int.fmod_lt_of_pos y (by decide)
  exact ⟨_, rfl, .inr ⟨by omega, by omega⟩⟩
theorem namesOk_put {l : List (Str × Int)} {k : Str} {v : Int} (h : NamesOk l) (hk : NameOk k) : NamesOk (kdpPut l k v) := by
  unfold kdpPut
  split
  · intro p hp
    obtain ⟨q, hq, rfl⟩ := List.mem_map.mp hp
    by_cases e : decide (q.1 = k) = true
    · rw [if_pos e]; exact h q hq
    · rw [if_neg e]; exact h q hq
  · intro p hp
    rcases List.mem_append.mp hp with hp | hp
    · exact h p hp
    · rw [List.mem_singleton.mp hp]; exact hk
theorem len_put {l : List (Str × Int)} {k : Str} {v x : Int} {pre : List Int} {n : Nat} (h : l.length ≤ n + pre.length) : (kdpPut l k v).length ≤ n + (pre ++ [x]).length := by
  have := kdpPut_len l k v
  simp only [List.length_append, List.length_cons, List.length_nil]
  omega
theorem len_same {l : List (Str × Int)} {x : Int} {pre : List Int} {n : Nat} (h : l.length ≤ n + pre.length) : l.length ≤ n + (pre ++ [x]).length := by
  simp only [List.length_append, List.length_cons, List.length_nil]
  omega
theorem namesOk_l : NamesOk [(Str.ofString "a", 33188), (Str.ofString "b", 16877)] := by
  intro p hp
  simp only [List.mem_cons, List.not_mem_nil, or_false] at hp
  rcases hp with rfl | rfl
  · exact ⟨97, by decide, by decide⟩
  · exact ⟨98, by decide, by decide⟩
theorem namesOk_r : NamesOk [(Str.ofString "a", 98724), (Str.ofString "b", 17389), (Str.ofString "c", 41471)] := by
  intro p hp
  simp only [List.mem_cons, List.not_mem_nil, or_false] at hp
  rcases hp with rfl | rfl | rfl
  · exact ⟨97, by decide, by decide⟩
  · exact ⟨98, by decide, by decide⟩
  · exact ⟨99, by decide, by decide⟩
theorem news_drop2 {h₀ h : Heap} {L : Addr} {p q : Addr × Obj} {r : List (Addr × Obj)} (N : News h₀ L h (p :: q :: r)) : News h₀ L h (p :: r) := fun x hx => by
  rcases List.mem_cons.mp hx with rfl | hx
  · exact N _ (.head _)
  · exact N _ (.tail _ (.tail _ hx))
theorem len_take7 {l : List (Str × Int)} {ns : List Int} {n : Nat} (h : l.length ≤ n + (ns.take 7).length) : l.length ≤ n + 7 := by
  have := List.length_take_le 7 ns
  omega
end Mine
end
section
open PySem PySem.W PyProof.Rows
example (prog : Program) (w : World) (A : Around) (E : Value → Shared → Prop) (s : Shared) (Q : Value → Shared → Prop) (h : wpAny (model prog w) A (compareOp .Eq (.int 1 0) (.int 2 0)) Q E s) : wpAny (model prog w) A (compareOp .Eq (.int 1 0) (.int 2 0)) Q E s := by
  w_top off
  k_with_none
  first
    | (walk1; fail)
    | exact h
end
section
open PySem PySem.W PyProof.Rows PySem.Spec PySem.Calls
set_option Elab.async false
set_option maxRecDepth 100000
set_option maxHeartbeats 8000000
set_option pp.deepTerms false
set_option pp.deepTerms.threshold 8
set_option pp.fieldNotation false
namespace Mine
theorem sides_call {w : World} {loose : List Str} {mean : ExcName → Option Value} {mg mb : Str → Option Value} {news : List (Addr × Obj)} {l : Addr} {vs : List Value} {ns : List Int}
    {dp un : Nat} {gd : Option (List Code)} {cn : Str} {cs : Scope} {a₁ : Addr} {ccd : Value} {cl : List (Str × Addr)} {outer : List Env} {A₀ : Around} {base h₀ : Heap} {L : Addr} {m : Str → Option Value} {s : Shared} {Q E : Value → Shared → Prop}
    (B : Below A₀ base outer h₀) (F : Fr h₀ L s.heap m) (X : (hd.heap_39 w.params).In h₀) (N : News h₀ L s.heap news) (T : Top hd.view_39 loose mean mg mb h₀) (hk : cs.kind = .function)
    (hl : base.IsList l vs.toArray) (hi : IntsAre vs ns) (hlay : PyData.layable0 (PyData.list (ns.map PyData.int)) = true) (hdp : dp + 1 < recursionLimit) (hun : un + 8 < cLine)
    (hret : ∀ (D a b : Addr) (oa ob : Obj) (ka kb : List (Str × Value)) (ca cb : List (Str × Int)) (h' : Heap) (tk' : Nat), Fr h₀ L h' m →
      News h₀ L h' ((D, { cls := .type "tuple", data := .seq #[.ref a, .ref b] }) :: (b, ob) :: (a, oa) :: news) →
      (a == sysModules) = false → oa.IsDictOf (PySem.strKind (RowW.prog (OpenRow.toRowW (OpenLaw.row PySem.Challenge.rw_il0160_01))) w) ka → PyProof.V.FlatPairs PyData.str ka (kdpD ca) → NamesOk ca → ca.length ≤ 9 →
      (b == sysModules) = false → ob.IsDictOf (PySem.strKind (RowW.prog (OpenRow.toRowW (OpenLaw.row PySem.Challenge.rw_il0160_01))) w) kb → PyProof.V.FlatPairs PyData.str kb (kdpD cb) → NamesOk cb → cb.length ≤ 10 →
      Q (.ref D) { s with heap := h', toks := tk' }) :
    wpAny (model (RowW.prog (OpenRow.toRowW (OpenLaw.row PySem.Challenge.rw_il0160_01))) w) (ktrTop dp un gd cn cs L a₁ ccd cl outer) (call (.ref 120) [.ref l]) Q E s := by
  revert X; k_fill; intro X
  refine wpAny_call ?_
  cell_enter
  (k_with "state" => (refine ⟨?_, ?_, ?_, ?_⟩; (all_goals first | assumption | exact namesOk_l | exact namesOk_r | exact namesOk_put (by assumption) (nameOk_chr _) | exact len_put (by assumption) | exact len_same (by assumption) | exact Nat.le_refl _)))
  (k_with "pyIter ref" => (
    (rename PyProof.V.FlatPairs _ _ [_, _, _] => hfR); (have hfR' : PyProof.V.FlatPairs PyData.str _ (kdpD [(Str.ofString "a", 98724), (Str.ofString "b", 17389), (Str.ofString "c", 41471)]) := hfR); clear hfR;
    (rename PyProof.V.FlatPairs _ _ [_, _] => hfL); (have hfL' : PyProof.V.FlatPairs PyData.str _ (kdpD [(Str.ofString "a", 33188), (Str.ofString "b", 16877)]) := hfL); clear hfL;
    (rename Fr _ _ _ _ => fX); (dsimp only at fX);
    k_state (fun pre l r => NamesOk l ∧ NamesOk r ∧ l.length ≤ 2 + pre.length ∧ r.length ≤ 3 + pre.length) "left$" "right$"))
  k_steps
  k_with_none
  exact hret _ _ _ _ _ _ _ _ _ _ _ (by assumption) (news_drop2 (by assumption)) (by assumption) (by assumption) (by assumption) (by assumption) (len_take7 (by assumption)) (by assumption) (by assumption) (by assumption) (by assumption) (len_take7 (by assumption))
end Mine
end
local macro_rules | `(tactic| walk_at $s:str) => `(tactic| k_extra $s)
section
open PySem PySem.W PyProof.Rows
example (prog : Program) (w : World) (A : Around) (E : Value → Shared → Prop) (s : Shared) (Q : Value → Shared → Prop) (h : wpAny (model prog w) A (compareOp .Eq (.int 1 0) (.int 2 0)) Q E s) : wpAny (model prog w) A (compareOp .Eq (.int 1 0) (.int 2 0)) Q E s := by
  w_top off
  k_with_none
  first
    | (walk1; fail)
    | exact h
end
section
open PySem PySem.W PyProof.Rows PySem.Spec PySem.Calls
set_option Elab.async false
set_option maxRecDepth 100000
set_option maxHeartbeats 8000000
namespace Mine
noncomputable def threeS (f ab : Int) (ends : Str) : Str := Txt.item (Str.ofString "-r") (Int.fdiv f 4) ++ Txt.item (Str.ofString "-w") (Int.fmod (Int.fdiv f 2) 2) ++ Txt.item ends (Int.fmod f 2 + 2 * ab)
noncomputable def kindS (mode : Int) : Str := Txt.item (Str.ofString "?pc?d?b?-?l?s???") (Int.fmod (Int.fdiv mode 4096) 16)
noncomputable def rowS (mode : Int) : Str :=
  kindS mode ++ threeS (Int.fmod (Int.fdiv mode 64) 8) (Int.fmod (Int.fdiv mode 2048) 2) (Str.ofString "-xSs")
    ++ threeS (Int.fmod (Int.fdiv mode 8) 8) (Int.fmod (Int.fdiv mode 1024) 2) (Str.ofString "-xSs")
    ++ threeS (Int.fmod mode 8) (Int.fmod (Int.fdiv mode 512) 2) (Str.ofString "-xTt")
theorem three_call {w : World} {loose : List Str} {mean : ExcName → Option Value} {mg mb : Str → Option Value} {news : List (Addr × Obj)}
    {dp un : Nat} {gd : Option (List Code)} {cn : Str} {cs : Scope} {a₁ : Addr} {ccd : Value} {cl : List (Str × Addr)} {outer : List Env} {A₀ : Around} {base h₀ : Heap} {L : Addr} {m : Str → Option Value} {s : Shared} {Q E : Value → Shared → Prop} {f ab : Int} {t1 t2 t3 : Tok} {ends : Str}
    (B : Below A₀ base outer h₀) (F : Fr h₀ L s.heap m) (X : (hd.heap_39 w.params).In h₀) (N : News h₀ L s.heap news) (T : Top hd.view_39 loose mean mg mb h₀) (hk : cs.kind = .function) (he : ends = Str.ofString "-xSs" ∨ ends = Str.ofString "-xTt")
    (hf0 : 0 ≤ f) (hf1 : f < 8) (ha0 : 0 ≤ ab) (ha1 : ab < 2) (hdp : dp + 1 < recursionLimit)
    (hret : ∀ (t : Tok) (h' : Heap) (tk' : Nat) (S : Str), S = threeS f ab ends → S.length = 3 → Fr h₀ L h' m → News h₀ L h' news → Q (.str S t) { s with heap := h', toks := tk' }) :
    wpAny (model (RowW.prog (OpenRow.toRowW (OpenLaw.row PySem.Challenge.rw_il0160_01))) w) (ktrTop dp un gd cn cs L a₁ ccd cl outer) (call (.ref 127) [.int f t1, .int ab t2, .str ends t3]) Q E s := by
  revert X; k_fill; intro X
  rcases he with rfl | rfl
  all_goals
    refine wpAny_call ?_
    cell_enter
    k_steps
    exact hret _ _ _ _ rfl (by simp only [Str.length_append] at *; omega) (by assumption) (by assumption)
theorem kind_call {w : World} {loose : List Str} {mean : ExcName → Option Value} {mg mb : Str → Option Value} {news : List (Addr × Obj)}
    {dp un : Nat} {gd : Option (List Code)} {cn : Str} {cs : Scope} {a₁ : Addr} {ccd : Value} {cl : List (Str × Addr)} {outer : List Env} {A₀ : Around} {base h₀ : Heap} {L : Addr} {m : Str → Option Value} {s : Shared} {Q E : Value → Shared → Prop} {f : Int} {t1 : Tok}
    (B : Below A₀ base outer h₀) (F : Fr h₀ L s.heap m) (X : (hd.heap_39 w.params).In h₀) (N : News h₀ L s.heap news) (T : Top hd.view_39 loose mean mg mb h₀) (hk : cs.kind = .function) (hdp : dp + 1 < recursionLimit)
    (hret : ∀ (t : Tok) (h' : Heap) (tk' : Nat) (S : Str), S = kindS f → S.length = 1 → Fr h₀ L h' m → News h₀ L h' news → Q (.str S t) { s with heap := h', toks := tk' }) :
    wpAny (model (RowW.prog (OpenRow.toRowW (OpenLaw.row PySem.Challenge.rw_il0160_01))) w) (ktrTop dp un gd cn cs L a₁ ccd cl outer) (call (.ref 134) [.int f t1]) Q E s := by
  revert X; k_fill; intro X
  refine wpAny_call ?_
  cell_enter
  k_steps
  exact hret _ _ _ _ rfl (by assumption) (by assumption) (by assumption)
theorem row_call {w : World} {loose : List Str} {mean : ExcName → Option Value} {mg mb : Str → Option Value} {news : List (Addr × Obj)}
    {dp un : Nat} {gd : Option (List Code)} {cn : Str} {cs : Scope} {a₁ : Addr} {ccd : Value} {cl : List (Str × Addr)} {outer : List Env} {A₀ : Around} {base h₀ : Heap} {L : Addr} {m : Str → Option Value} {s : Shared} {Q E : Value → Shared → Prop} {f : Int} {t1 : Tok}
    (B : Below A₀ base outer h₀) (F : Fr h₀ L s.heap m) (X : (hd.heap_39 w.params).In h₀) (N : News h₀ L s.heap news) (T : Top hd.view_39 loose mean mg mb h₀) (hk : cs.kind = .function) (hdp : dp + 2 < recursionLimit)
    (hret : ∀ (t : Tok) (h' : Heap) (tk' : Nat) (S : Str), S = rowS f → S.length = 10 → Fr h₀ L h' m → News h₀ L h' news → Q (.str S t) { s with heap := h', toks := tk' }) :
    wpAny (model (RowW.prog (OpenRow.toRowW (OpenLaw.row PySem.Challenge.rw_il0160_01))) w) (ktrTop dp un gd cn cs L a₁ ccd cl outer) (call (.ref 141) [.int f t1]) Q E s := by
  k_with_none
  k_with "call ref" => (k_here; k_dflt (refine' three_call (f := _) ?B ?F ?X ?N ?T ?K ?e ?f0 ?f1 ?a0 ?a1 ?dp ?_; (case B => k_asm); (case F => k_asm); (case X => k_asm); (case N => k_asm); (case T => k_asm); (case K => first | exact rfl | assumption); (case e => first | exact .inl rfl | exact .inr rfl); (case f0 => exact Int.fmod_nonneg_of_pos _ (by decide)); (case f1 => exact Int.fmod_lt_of_pos _ (by decide)); (case a0 => exact Int.fmod_nonneg_of_pos _ (by decide)); (case a1 => exact Int.fmod_lt_of_pos _ (by decide)); (case dp => ktr_room)); intro t9 h9 tk9 S9 eS9 lS9 F9 N9; (try dsimp only); (try k_fold))
  k_with "call ref" => (k_here; k_dflt (refine' kind_call ?B ?F ?X ?N ?T ?K ?dp ?_; (case B => k_asm); (case F => k_asm); (case X => k_asm); (case N => k_asm); (case T => k_asm); (case K => first | exact rfl | assumption); (case dp => ktr_room)); intro t9 h9 tk9 S9 eS9 lS9 F9 N9; (try dsimp only); (try k_fold))
  revert X; k_fill; intro X
  refine wpAny_call ?_
  cell_enter
  k_steps
  exact hret _ _ _ _ (by subst_vars; rfl) (by simp only [Str.length_append] at *; omega) (by assumption) (by assumption)
end Mine
end
section
open PySem PySem.W PyProof.Rows
example (prog : Program) (w : World) (A : Around) (E : Value → Shared → Prop) (s : Shared) (Q : Value → Shared → Prop) (h : wpAny (model prog w) A (compareOp .Eq (.int 1 0) (.int 2 0)) Q E s) : wpAny (model prog w) A (compareOp .Eq (.int 1 0) (.int 2 0)) Q E s := by
  w_top off
  k_with_none
  first
    | (walk1; fail)
    | exact h
end
section
open PySem PySem.W PyProof.Rows PySem.Spec PySem.Calls
open Sem (wp)
open AutoSeq1 (wpAny_loadPart')
set_option Elab.async false
set_option maxRecDepth 100000
namespace Mine
theorem enum_new_tup (l : Addr) (items : Array Value) (n : Nat) (dct : Option Addr) (sl : Array (Option Value)) :
    Meets (Builtin.«enumerate.__new__» ⟨[.type "enumerate", .ref l], []⟩) (fun _ R s => s.heap.get? l = some { cls := .type "tuple", dict := dct, data := .seq items n, slots := sl } ∧
      R (.ok (.ret (.ref (s.heap.push { cls := .type "tuple_iterator", data := .fields #[.ref l, .int 0 0] }).objs.size)))
        { s with heap := (s.heap.push { cls := .type "tuple_iterator", data := .fields #[.ref l, .int 0 0] }).push { cls := .type "enumerate", data := .fields #[.none, .bool false, .ref s.heap.objs.size, rawInt 0, .none, .none] } }) :=
  .of_wp fun prog w A R s h => by
    obtain ⟨hp, g, d, tk, os⟩ := s
    obtain ⟨hl, h⟩ := h
    have hsub := sub_enumerate
    have hT : Heap.IsTuple (Shared.heap ⟨hp, g, d, tk, os⟩) l items := ⟨_, hl, rfl, n, rfl⟩
    wp_walk using wpAny_loadPart' hl
    refine wpAny_stack_any fun st => wpAny_pure ?_
    split
    · rename_i c _ _ _ _ _
      cases (c == Value.type "enumerate")
      all_goals
        wp_walk using wpAny_loadPart' hl, wpAny_pyIter_tuple hT
        exact ⟨_, rfl, h⟩
    · wp_walk using wpAny_loadPart' hl, wpAny_pyIter_tuple hT
      exact ⟨_, rfl, h⟩
section
variable {prog : Program} {w : World} {A : Around} {E : Value → Shared → Prop} {s : Shared}
theorem call_enum_tup {l : Addr} {items : Array Value} {Q : Value → Shared → Prop} (hL : s.heap.IsTuple l items)
    (h : ∀ h', IsEnum h' (s.heap.objs.size + 1) s.heap.objs.size 0 .none → h'.IsTupleIter s.heap.objs.size l 0 →
      (∀ b o, s.heap.get? b = some o → h'.get? b = some o) → Q (.ref (s.heap.objs.size + 1)) { s with heap := h' }) :
    wpAny (model prog w) A (call (.type "enumerate") [.ref l]) Q E s := by
  obtain ⟨⟨c, dct, dt, sl⟩, hl, hc, n, hd⟩ := hL
  obtain rfl : c = .type "tuple" := hc
  obtain rfl : dt = .seq items n := hd
  refine callType_new F.called_enumerate (by decide) (F.typeCall_enumerate_1 _) (F.newCall_enumerate_1 _) (fun obj => F.args_object_init_2 obj _) F.entry_enumerate_new
    (enum_new_tup l items n dct sl) ⟨hl, ?_⟩
  have hz : (s.heap.push { cls := .type "tuple_iterator", data := .fields #[.ref l, .int 0 0] }).objs.size = s.heap.objs.size + 1 := Heap.size_push ..
  show _ ∧ _
  rw [hz]
  have he : IsEnum ((s.heap.push { cls := .type "tuple_iterator", data := .fields #[.ref l, .int 0 0] }).push
      { cls := .type "enumerate", data := .fields #[.none, .bool false, .ref s.heap.objs.size, rawInt 0, .none, .none] }) (s.heap.objs.size + 1) s.heap.objs.size 0 .none := by
    have := Heap.get?_push_size (s.heap.push { cls := .type "tuple_iterator", data := .fields #[.ref l, .int 0 0] })
      (o := { cls := .type "enumerate", data := .fields #[.none, .bool false, .ref s.heap.objs.size, rawInt 0, .none, .none] }) rfl
    rw [hz] at this; exact this
  exact ⟨⟨_, he, rfl⟩, h _ he ⟨_, Heap.get?_push_of_some _ (Heap.get?_push_size _ rfl), rfl, rfl⟩ fun b o x => Heap.get?_push_of_some _ (Heap.get?_push_of_some _ x)⟩

theorem nextOf_tup_item {it t : Addr} {i : Nat} {items} {x : Value} {Q : Value → Shared → Prop} (hit : s.heap.IsTupleIter it t i)
    (ht : s.heap.IsTuple t items) (hx : items[i]? = some x)
    (hQ : ∀ h', h'.IsTupleIter it t (i + 1) → Heap.SameBut it s.heap h' → Q x { s with heap := h' }) :
    wpAny (model prog w) A (Builtin.SmallTypes.nextOf (.ref it)) Q E s := by
  obtain ⟨o, ho, hc, hd⟩ := id hit
  obtain ⟨ot, hot, _, nt, hdt⟩ := ht
  unfold Builtin.SmallTypes.nextOf
  refine wpAny_bind (wpAny_callSpecial?_slot (name := Str.ofString "__next__") hit.typeIs F.slot_tuple_iterator_next
    (wpAny_call_entry F.slot_tuple_iterator_next hit.typeIs F.entry_tuple_iterator_next ?_ (F.args_tuple_iterator_next_1 _)))
  show wpAny _ _ (field (.ref it) 0 >>= _) _ _ s
  refine wpAny_bind (wpAny_field ho hd (x := .ref t) rfl ?_)
  show wpAny _ _ (if (Value.ref t == Value.none) = true then _ else _) _ _ s
  rw [if_neg (show ¬ ((Value.ref t == Value.none) = true) from Bool.false_ne_true)]
  show wpAny _ _ (field (.ref it) 1 >>= _) _ _ s
  refine wpAny_bind (wpAny_field ho hd (x := .int i 0) rfl ?_)
  show wpAny _ _ (seqItems? (.ref t) >>= _) _ _ s
  refine wpAny_bind (wpAny_seqItems hot hdt ?_)
  simp only [Int.toNat_natCast, hx]
  refine wpAny_bind (wpAny_setField ho hd (by simp) (wpAny_pure ⟨x, rfl, wpAny_pure (hQ _ ?_ (Heap.SameBut.update ..))⟩))
  exact ⟨_, Heap.get?_update_self _ ho (Obj.isFreed_of_fields (Obj.data_mapFields hd _)), (Obj.cls_mapFields ..).trans hc, by
    rw [Obj.data_mapFields hd]; simp [rawInt]⟩
theorem nextOf_tup_end {it t : Addr} {i : Nat} {items} {Q : Value → Shared → Prop} (hh : A.handled = none)
    (hit : s.heap.IsTupleIter it t i) (ht : s.heap.IsTuple t items) (hx : items[i]? = none)
    (hE : ∀ h' e, Heap.ExtBut it s.heap h' → (∃ o, h'.get? e = some o ∧ o.cls = .type "StopIteration") → E (.ref e) { s with heap := h' }) :
    wpAny (model prog w) A (Builtin.SmallTypes.nextOf (.ref it)) Q E s := by
  obtain ⟨o, ho, hc, hd⟩ := id hit
  obtain ⟨ot, hot, _, nt, hdt⟩ := ht
  unfold Builtin.SmallTypes.nextOf
  refine wpAny_bind (wpAny_callSpecial?_slot (name := Str.ofString "__next__") hit.typeIs F.slot_tuple_iterator_next
    (wpAny_call_entry F.slot_tuple_iterator_next hit.typeIs F.entry_tuple_iterator_next ?_ (F.args_tuple_iterator_next_1 _)))
  show wpAny _ _ (field (.ref it) 0 >>= _) _ _ s
  refine wpAny_bind (wpAny_field ho hd (x := .ref t) rfl ?_)
  show wpAny _ _ (if (Value.ref t == Value.none) = true then _ else _) _ _ s
  rw [if_neg (show ¬ ((Value.ref t == Value.none) = true) from Bool.false_ne_true)]
  show wpAny _ _ (field (.ref it) 1 >>= _) _ _ s
  refine wpAny_bind (wpAny_field ho hd (x := .int i 0) rfl ?_)
  show wpAny _ _ (seqItems? (.ref t) >>= _) _ _ s
  refine wpAny_bind (wpAny_seqItems hot hdt ?_)
  simp only [Int.toNat_natCast, hx]
  refine wpAny_bind (wpAny_rule (wpAny_bind (wpAny_setField ho hd (by simp) ?_)))
  show wpAny _ _ (newExc (.type "StopIteration") [] >>= _) _ _ _
  refine wpAny_bind ?_
  simp only [newExc, newTuple]
  refine wpAny_bind (wpAny_newObj_type ?_ (by size_fits))
  refine wpAny_bind (m := firstArgMember _ _) (wpAny_of_eq (a := Value.none) (by first | rfl | (simp only [firstArgMember]; rfl)) ?_)
  refine wpAny_newObj_type ?_ (by size_fits)
  simp only [raiseNew]
  refine wpAny_bind (wpAny_handled ?_)
  first | rw [show A.in1.handled = none from hh] | rw [hh]
  refine wpAny_bind (wpAny_pure (wpAny_throw ?_))
  exact hE _ _ (((Heap.SameBut.update ..).extBut.push _).push _) ⟨_, Heap.get?_push_size _ rfl, rfl⟩
end
end Mine
end
section
open PySem PySem.W PyProof.Rows
example (prog : Program) (w : World) (A : Around) (E : Value → Shared → Prop) (s : Shared) (Q : Value → Shared → Prop) (h : wpAny (model prog w) A (compareOp .Eq (.int 1 0) (.int 2 0)) Q E s) : wpAny (model prog w) A (compareOp .Eq (.int 1 0) (.int 2 0)) Q E s := by
  w_top off
  k_with_none
  first
    | (walk1; fail)
    | exact h
end
section
open PySem PySem.W PyProof.Rows PySem.Spec PySem.Calls
open Sem (wp)
set_option Elab.async false
set_option maxRecDepth 100000
namespace Mine
section
variable {prog : Program} {w : World} {A : Around} {E : Value → Shared → Prop} {s : Shared}
theorem enum_tup_item {e it l : Addr} {i : Nat} {items : Array Value} {x old : Value} {Q : Option Value → Shared → Prop}
    (he : IsEnum s.heap e it i old) (hit : s.heap.IsTupleIter it l i) (hl : s.heap.IsTuple l items) (hx : items[i]? = some x) (hne : e ≠ it)
    (hQ : ∀ h', IsEnumOut h' e it ((i : Int) + 1) x s.heap.objs.size → h'.IsTupleIter it l (i + 1) →
      h'.get? s.heap.objs.size = some { cls := .type "tuple", data := .seq #[.int i s.toks, x] } →
      (∀ b o, b ≠ e → b ≠ it → s.heap.get? b = some o → h'.get? b = some o) → Q (some (.ref s.heap.objs.size)) { s with heap := h', toks := s.toks + 1 }) :
    wpAny (model prog w) A (pyNext (.ref e)) Q E s := by
  have hT : s.TypeIs (.ref e) "enumerate" := ⟨_, he, rfl⟩
  unfold pyNext
  refine wpAny_bind (wpAny_attempt (wpAny_callSpecial?_slot (name := Str.ofString "__next__") hT F.slot_enumerate_next
    (wpAny_call_entry F.slot_enumerate_next hT F.entry_enumerate_next ?_ (F.args_enumerate_next_1 _))))
  obtain ⟨hp, g, d, tk, os⟩ := s
  show wpAny _ _ (field (.ref e) 2 >>= _) _ _ _
  refine wpAny_bind (wpAny_field he rfl (x := .ref it) rfl ?_)
  refine wpAny_bind (nextOf_tup_item hit hl hx fun h₁ hit₁ hs₁ => ?_)
  replace hs₁ : Heap.SameBut it hp h₁ := hs₁
  have he₁ : IsEnum h₁ e it i old := (hs₁.2 e hne).trans he
  show wpAny _ _ (field (.ref e) 3 >>= _) _ _ ⟨h₁, g, d, tk, os⟩
  refine wpAny_bind (wpAny_field he₁ rfl (x := rawInt i) rfl ?_)
  show wpAny _ _ (field (.ref e) 4 >>= _) _ _ ⟨h₁, g, d, tk, os⟩
  refine wpAny_bind (wpAny_field he₁ rfl (x := .none) rfl ?_)
  show wpAny _ _ (mkInt i >>= _) _ _ ⟨h₁, g, d, tk, os⟩
  refine wpAny_bind (wpAny_mkInt ?_)
  show wpAny _ _ (setField (.ref e) 3 (rawInt ((i : Int) + 1)) >>= _) _ _ ⟨h₁, g, d, tk + 1, os⟩
  refine wpAny_bind (wpAny_setField_rec he₁ (by simp) fun h₂ he₂ hs₂ => ?_)
  replace hs₂ : Heap.SameBut e h₁ h₂ := hs₂
  replace he₂ : IsEnum h₂ e it ((i : Int) + 1) old := he₂
  show wpAny _ _ (setField (.ref e) 4 .none >>= _) _ _ ⟨h₂, g, d, tk + 1, os⟩
  refine wpAny_bind (wpAny_setField_rec he₂ (by simp) fun h₃ he₃ hs₃ => ?_)
  replace hs₃ : Heap.SameBut e h₂ h₃ := hs₃
  replace he₃ : IsEnum h₃ e it ((i : Int) + 1) old := he₃
  show wpAny _ _ (newTuple [.int i tk, x] >>= _) _ _ ⟨h₃, g, d, tk + 1, os⟩
  refine wpAny_bind (wpAny_newTuple ?_)
  have z : h₃.objs.size = hp.objs.size := by rw [hs₃.1, hs₂.1, hs₁.1]
  have elt : e < hp.objs.size := Heap.lt_size he
  have up : ∀ {b : Addr} {o : Obj}, b ≠ e → b ≠ it → hp.get? b = some o → (h₃.push { cls := .type "tuple", data := .seq #[.int i tk, x] }).get? b = some o := fun hbe hbi hb =>
    Heap.get?_push_of_some _ (hs₃.extBut _ _ hbe (hs₂.extBut _ _ hbe (hs₁.extBut _ _ hbi hb)))
  have he₄ : IsEnum (h₃.push { cls := .type "tuple", data := .seq #[.int i tk, x] }) e it ((i : Int) + 1) old := Heap.get?_push_of_some _ he₃
  have ht₄ : (h₃.push { cls := .type "tuple", data := .seq #[.int i tk, x] }).get? hp.objs.size = some { cls := .type "tuple", data := .seq #[.int i tk, x] } := by rw [← z]; exact Heap.get?_push_size _ rfl
  have hit₄ : (h₃.push { cls := .type "tuple", data := .seq #[.int i tk, x] }).IsTupleIter it l (i + 1) :=
    (hit₁.at fun o q => hs₃.extBut _ _ (Ne.symm hne) (hs₂.extBut _ _ (Ne.symm hne) q)).at fun o q => Heap.get?_push_of_some _ q
  show wpAny _ _ (Builtin.SmallTypes.ownedTupleIsFree (.ref e) >>= _) _ _ ⟨_, g, d, tk + 1, os⟩
  rw [z]
  generalize h₃.push { cls := .type "tuple", data := .seq #[.int i tk, x] } = h₄ at up he₄ ht₄ hit₄
  refine wpAny_bind ?_
  unfold Builtin.SmallTypes.ownedTupleIsFree
  refine wpAny_bind (wpAny_field he₄ rfl (x := .none) rfl (wpAny_pure ?_))
  simp only [if_true]
  refine wpAny_bind (wpAny_rule ?_)
  refine wpAny_bind (wpAny_field he₄ rfl (x := old) rfl ?_)
  refine wpAny_bind (wpAny_setField_rec he₄ (by simp) fun h₅ he₅ hs₅ => ?_)
  replace hs₅ : Heap.SameBut e h₄ h₅ := hs₅
  replace he₅ : IsEnum h₅ e it ((i : Int) + 1) x := he₅
  show wpAny _ _ (Builtin.SmallTypes.ownedTupleHandOut (.ref e) (.ref hp.objs.size) >>= _) _ _ ⟨h₅, g, d, tk + 1, os⟩
  refine wpAny_bind ?_
  unfold Builtin.SmallTypes.ownedTupleHandOut
  refine wpAny_bind (wpAny_setField_rec he₅ (by simp) fun h₆ he₆ hs₆ => ?_)
  replace hs₆ : Heap.SameBut e h₅ h₆ := hs₆
  replace he₆ : IsEnumOut h₆ e it ((i : Int) + 1) x hp.objs.size := he₆
  refine wpAny_setField_rec he₆ (by simp) fun h₇ he₇ hs₇ => ?_
  replace hs₇ : Heap.SameBut e h₆ h₇ := hs₇
  replace he₇ : IsEnumOut h₇ e it ((i : Int) + 1) x hp.objs.size := he₇
  have up7 : ∀ {b : Addr} {o : Obj}, b ≠ e → h₄.get? b = some o → h₇.get? b = some o := fun hb q => hs₇.extBut _ _ hb (hs₆.extBut _ _ hb (hs₅.extBut _ _ hb q))
  refine wpAny_bind (wpAny_letGo (wpAny_pure ⟨_, rfl, ?_⟩))
  exact wpAny_pure (hQ h₇ he₇ (hit₄.at fun o q => up7 (Ne.symm hne) q) (up7 (Nat.ne_of_gt elt) ht₄) fun b o hbe hbi hb => up7 hbe (up hbe hbi hb))
theorem enum_tup_end {e it l : Addr} {i : Nat} {items : Array Value} {old : Value} {Q : Option Value → Shared → Prop} (hh : A.handled = none)
    (he : IsEnum s.heap e it i old) (hit : s.heap.IsTupleIter it l i) (hl : s.heap.IsTuple l items) (hx : items[i]? = none)
    (hQ : ∀ h', Heap.ExtBut it s.heap h' → Q none { s with heap := h' }) : wpAny (model prog w) A (pyNext (.ref e)) Q E s := by
  have hT : s.TypeIs (.ref e) "enumerate" := ⟨_, he, rfl⟩
  unfold pyNext
  refine wpAny_bind (wpAny_attempt (wpAny_callSpecial?_slot (name := Str.ofString "__next__") hT F.slot_enumerate_next
    (wpAny_call_entry F.slot_enumerate_next hT F.entry_enumerate_next ?_ (F.args_enumerate_next_1 _))))
  show wpAny _ _ (field (.ref e) 2 >>= _) _ _ _
  refine wpAny_bind (wpAny_field he rfl (x := .ref it) rfl ?_)
  refine wpAny_bind (nextOf_tup_end hh hit hl hx fun h' x he' hx' => ?_)
  obtain ⟨o, ho, hc⟩ := hx'
  exact wpAny_bind (wpAny_isInstance (T := "StopIteration") (b := true) ⟨o, ho, hc⟩ isSubtype_stop (wpAny_pure (hQ _ he')))
end
theorem walksEnumTup {prog : Program} {w : World} {A : Around} (hh : A.handled = none) (e it l : Addr) (hei : e ≠ it) (hle : l ≠ e) (hli : l ≠ it) (items : Array Value) :
    WalksU prog w A e [e, it, l] [e, it] items.size
      (fun i vals => ∃ t x, items[i]? = some x ∧ vals = #[.int i t, x])
      (fun i h => (∃ old, IsEnum h e it i old) ∧ h.IsTupleIter it l i ∧ h.IsTuple l items)
      (fun i T h => (∃ x, IsEnumOut h e it ((i : Int) + 1) x T) ∧ h.IsTupleIter it l (i + 1) ∧ h.IsTuple l items ∧ T ≠ e ∧ T ≠ it) where
  sub := fun b hb => by
    simp only [List.mem_cons, List.not_mem_nil, or_false] at hb ⊢
    rcases hb with rfl | rfl
    · exact .inl rfl
    · exact .inr (.inl rfl)
  frame := fun i h h' hst hk => by
    obtain ⟨⟨old, he⟩, hit, hl⟩ := hst
    exact ⟨⟨old, hk e (by simp) _ he⟩, hit.at fun o x => hk it (by simp) o x, hl.at fun o x => hk l (by simp) o x⟩
  item := fun i s Q E hi hst hQ => by
    obtain ⟨⟨old, he⟩, hit, hl⟩ := hst
    have hx : items[i]? = some items[i] := Array.getElem?_eq_getElem hi
    refine enum_tup_item he hit hl hx hei fun h' ho hit' hT hk => ?_
    have elt : e < s.heap.objs.size := Heap.lt_size he
    have ilt : it < s.heap.objs.size := by obtain ⟨_, x, _⟩ := hit; exact Heap.lt_size x
    exact hQ s.heap.objs.size #[.int i s.toks, items[i]] h' (s.toks + 1) ⟨_, _, hx, rfl⟩ ⟨_, hT, rfl, _, rfl⟩
      ⟨⟨_, ho⟩, hit', hl.at fun o x => hk l o hle hli x, Nat.ne_of_gt elt, Nat.ne_of_gt ilt⟩
      fun b o hb x => hk b o (fun q => hb (by simp [q])) (fun q => hb (by simp [q])) x
  go := fun elts k pos i T s Q E hm hQ => by
    obtain ⟨⟨x, ho⟩, hit, hl, hTe, hTi⟩ := hm
    refine wpAny_letOwnedTupleGo_enum ho fun h' he' hs' => hQ h' ⟨⟨x, by simpa using he'⟩, hit.at fun o y => (hs'.2 it hei.symm).trans y, hl.at fun o y => (hs'.2 l hle).trans y⟩ fun b o hb y => ?_
    exact (hs'.2 b fun q => hb (by simp [q])).trans y
  apart := fun i T h hm hT => by
    obtain ⟨_, _, _, hTe, hTi⟩ := hm
    simp only [List.mem_cons, List.not_mem_nil, or_false] at hT
    rcases hT with q | q
    · exact hTe q
    · exact hTi q
  done := fun s Q E hst hQ => by
    obtain ⟨⟨old, he⟩, hit, hl⟩ := hst
    exact enum_tup_end hh he hit hl (Array.getElem?_eq_none (Nat.le_refl _)) fun h' hx => hQ h' s.toks fun b o hb y => hx b o (fun q => hb (by simp [q])) y
  self := fun i s Q E hst hQ => by
    obtain ⟨⟨old, he⟩, _, _⟩ := hst
    exact wpAny_pyIter_enum he hQ
end Mine
end
section
open PySem PySem.W PyProof.Rows
example (prog : Program) (w : World) (A : Around) (E : Value → Shared → Prop) (s : Shared) (Q : Value → Shared → Prop) (h : wpAny (model prog w) A (compareOp .Eq (.int 1 0) (.int 2 0)) Q E s) : wpAny (model prog w) A (compareOp .Eq (.int 1 0) (.int 2 0)) Q E s := by
  w_top off
  k_with_none
  first
    | (walk1; fail)
    | exact h
end
section
open PySem PySem.W PyProof.Rows PySem.Spec PySem.Calls
set_option Elab.async false
set_option maxRecDepth 100000
namespace Mine
section
variable {prog : Program} {w : World} {A : Around} {E : Value → Shared → Prop} {s : Shared} {env : Env} {h₀ : Heap} {target : PySem.Expr} {body orelse : List Stmt} {Q : Flow → Shared → Prop} {m : Str → Option Value} {news : List (Addr × Obj)}
theorem new_of {b : Addr} {h : Heap} {L : Addr} (F : Fr h₀ L h m) (hb : h.objs.size ≤ b) : h₀.get? b = none := by
  cases e : h₀.get? b with
  | none => rfl
  | some o => exact absurd (Heap.lt_size (F.keep _ _ e)) (Nat.not_lt.mpr hb)
theorem turnPost_sub {L : Addr} {wr : List Addr} {own own' : List (Addr × Obj)} {J : (Str → Option Value) → List (Addr × Obj) → Prop} {s₁ s₂ : Shared} {f : Flow} (h : ∀ q ∈ own, q ∈ own') (k : TurnPost h₀ L wr own' J s₁ Q f s₂) : TurnPost h₀ L wr own J s₁ Q f s₂ := by
  have e : TurnEnd h₀ L wr own' J s₁ s₂ → TurnEnd h₀ L wr own J s₁ s₂ := by
    rintro ⟨h', tk, m', nx, e, F, N, hn, hJ⟩
    refine ⟨h', tk, m', nx, e, F, fun p hp => ?_, hn, hJ⟩
    rcases List.mem_append.mp hp with hp | hp
    · exact N p (List.mem_append_left _ (h p hp))
    · exact N p (List.mem_append_right _ hp)
  cases f with
  | ret v => exact k
  | brk => exact k
  | next => exact e k
  | cont => exact e k
theorem loopE_tup {t : Addr} {items : Array Value} (J : Nat → (Str → Option Value) → List (Addr × Obj) → Prop)
    (hh : A.handled = none) (ht : h₀.IsTuple t items) (F : Fr h₀ env.locals s.heap m) (N : News h₀ env.locals s.heap news) (h0 : J 0 m news)
    (step : ∀ i v m₁ nx h tk I oI, items[i]? = some v → J i m₁ nx → (∀ p ∈ nx, p.1 ≠ I) → Fr h₀ env.locals h m₁ → News h₀ env.locals h ((I, oI) :: nx) →
      wpAny (model prog w) A (assign target env v) (fun _ s₃ => wpAny (model prog w) A (execs body env) (TurnPost h₀ env.locals [I] [(I, oI)] (J (i + 1)) { s with heap := h, toks := tk } Q) E s₃) E { s with heap := h, toks := tk })
    (last : ∀ h tk m' nx, Fr h₀ env.locals h m' → News h₀ env.locals h nx → J items.size m' nx → wpAny (model prog w) A (execs orelse env) Q E { s with heap := h, toks := tk }) :
    wpAny (model prog w) A (pyIter (.ref t)) (fun it s₂ => LoopE prog w A h₀ env target body orelse Q E it s₂) E s := by
  have hts : s.heap.IsTuple t items := let ⟨o, e, r⟩ := ht; ⟨o, F.keep _ _ e, r⟩
  obtain ⟨ot, hot, _⟩ := id ht
  have htL : t < env.locals := Nat.lt_of_lt_of_le (Heap.lt_size hot) F.above
  have hLs : env.locals < s.heap.objs.size := F.ns.lt
  have hts' : t < s.heap.objs.size := Nat.lt_trans htL hLs
  refine wpAny_pyIter_tuple hts ?_
  have W := Walks.tuple (prog := prog) (w := w) hh s.heap.objs.size t (Nat.ne_of_lt hts') items
  refine ⟨_, _, _, items.size, _, _, _, m, news, J, rfl, KTurns.ofWalks (target := target) W fun i v s Q E st q => letGo_tupleiter st.1 q, ?_, ?_, ?_, ?_, F.push _, fun p hp => ⟨Heap.get?_push_of_some _ (N p hp).1, (N p hp).2⟩, h0, ?_, ?_⟩
  · simp only [List.mem_cons, List.not_mem_nil, or_false, not_or]
    exact ⟨Nat.ne_of_lt hLs, Nat.ne_of_gt htL⟩
  · intro b hb
    rw [List.mem_singleton.mp hb]
    exact new_of F (Nat.le_refl _)
  · intro p hp q
    rw [List.mem_singleton] at q
    exact absurd (Heap.lt_size (N p hp).1) (q ▸ Nat.lt_irrefl _)
  · exact ⟨⟨_, Heap.get?_push_size _ rfl, rfl, rfl⟩, hts.at fun o e => Heap.get?_push_of_some _ e⟩
  · intro i v m₁ nx h tk own _ hP hJ hn hfp hall hst F₁ N₁
    obtain ⟨oi, hoi, _⟩ := hst.1
    have only : ∀ q ∈ own, q ∈ [(s.heap.objs.size, oi)] := fun q hq => by
      have z := hfp q hq
      have e := N₁ q (List.mem_append_left _ hq)
      obtain ⟨a, o⟩ := q
      simp only [List.mem_cons, List.not_mem_nil, or_false] at z
      rcases z with rfl | rfl
      · have e1 := e.1.symm.trans hoi
        cases e1; exact .head _
      · have e1 := e.2.2
        dsimp only at e1
        rw [hot] at e1; cases e1
    refine wpAny_mono (step i v m₁ nx h tk _ oi hP hJ (fun q hq z => hn q hq (by rw [z]; exact .head _)) F₁ fun q hq => ?_) (fun _ _ k => wpAny_mono k (fun _ _ k => turnPost_sub only k) fun _ _ e => e) fun _ _ e => e
    rcases List.mem_cons.mp hq with rfl | hq
    · exact N₁ _ (List.mem_append_left _ (hall _ (.head _) (new_of F (Nat.le_refl _)) _ hoi))
    · exact N₁ q (List.mem_append_right _ hq)
  · intro h tk m' nx F' N' _ hJ
    exact last h tk m' nx F' N' hJ

theorem loopE_enum {elts : List PySem.Expr} {k : Nat} {pos : Pos} {t : Addr} {items : Array Value} (J : Nat → (Str → Option Value) → List (Addr × Obj) → Prop)
    (hh : A.handled = none) (ht : h₀.IsTuple t items) (F : Fr h₀ env.locals s.heap m) (N : News h₀ env.locals s.heap news) (h0 : J 0 m news)
    (step : ∀ i v T u m₁ nx h tk I oI I' oI', items[i]? = some v → h.IsTuple T #[.int (i : Int) u, v] → J i m₁ nx → (∀ p ∈ nx, p.1 ≠ I ∧ p.1 ≠ I') → I < I' → Fr h₀ env.locals h m₁ → News h₀ env.locals h ((I', oI') :: (I, oI) :: nx) →
      wpAny (model prog w) A (assign (.Tuple elts k pos) env (.ref T)) (fun _ s₃ => wpAny (model prog w) A (execs body env) (TurnPost h₀ env.locals [I', I] [(I', oI'), (I, oI)] (J (i + 1)) { s with heap := h, toks := tk } Q) E s₃) E { s with heap := h, toks := tk })
    (last : ∀ h tk m' nx, Fr h₀ env.locals h m' → News h₀ env.locals h nx → J items.size m' nx → wpAny (model prog w) A (execs orelse env) Q E { s with heap := h, toks := tk }) :
    wpAny (model prog w) A (call (.type "enumerate") [.ref t]) (fun xv s₁ => wpAny (model prog w) A (pyIter xv) (fun it s₂ => LoopE prog w A h₀ env (.Tuple elts k pos) body orelse Q E it s₂) E s₁) E s := by
  have hts : s.heap.IsTuple t items := let ⟨o, e, r⟩ := ht; ⟨o, F.keep _ _ e, r⟩
  obtain ⟨ot, hot, _⟩ := id ht
  have htL : t < env.locals := Nat.lt_of_lt_of_le (Heap.lt_size hot) F.above
  have hLs : env.locals < s.heap.objs.size := F.ns.lt
  have hts' : t < s.heap.objs.size := Nat.lt_trans htL hLs
  refine call_enum_tup hts fun h' hE hI hk => ?_
  refine wpAny_pyIter_enum hE ?_
  have W := walksEnumTup (prog := prog) (w := w) (A := A) hh (s.heap.objs.size + 1) s.heap.objs.size t (Nat.succ_ne_self _) (Nat.ne_of_lt (Nat.lt_succ_of_lt hts')) (Nat.ne_of_lt hts') items
  refine ⟨_, _, _, items.size, _, _, _, m, news, J, rfl, KTurns.ofWalksU W, ?_, ?_, ?_, ?_, F.keeps hk, N.grown hk, h0, ?_, ?_⟩
  · simp only [List.mem_cons, List.not_mem_nil, or_false, not_or]
    exact ⟨Nat.ne_of_lt (Nat.lt_succ_of_lt hLs), Nat.ne_of_lt hLs, Nat.ne_of_gt htL⟩
  · intro b hb
    simp only [List.mem_cons, List.not_mem_nil, or_false] at hb
    rcases hb with rfl | rfl
    · exact new_of F (Nat.le_succ _)
    · exact new_of F (Nat.le_refl _)
  · intro p hp q
    have hlp := Heap.lt_size (N p hp).1
    simp only [List.mem_cons, List.not_mem_nil, or_false] at q
    rcases q with q | q
    · exact Nat.ne_of_lt (Nat.lt_succ_of_lt hlp) q
    · exact Nat.ne_of_lt hlp q
  · exact ⟨⟨.none, hE⟩, hI, hts.at fun o e => hk t o e⟩
  · rintro i v m₁ nx h tk own _ ⟨T, vals, rfl, ⟨u, x, hx, rfl⟩, hT⟩ hJ hn hfp hall hst F₁ N₁
    obtain ⟨⟨old, he⟩, ⟨oi, hoi, _⟩, _⟩ := hst
    have only : ∀ q ∈ own, q ∈ [(s.heap.objs.size + 1, _), (s.heap.objs.size, oi)] := fun q hq => by
      have z := hfp q hq
      have e := N₁ q (List.mem_append_left _ hq)
      obtain ⟨a, o⟩ := q
      simp only [List.mem_cons, List.not_mem_nil, or_false] at z
      rcases z with rfl | rfl | rfl
      · have e1 := e.1.symm.trans he
        cases e1; exact .head _
      · have e1 := e.1.symm.trans hoi
        cases e1; exact .tail _ (.head _)
      · have e1 := e.2.2
        dsimp only at e1
        rw [hot] at e1; cases e1
    refine wpAny_mono (step i x T u m₁ nx h tk _ oi _ _ hx hT hJ (fun q hq => ⟨fun z => hn q hq (by rw [z]; exact .tail _ (.head _)), fun z => hn q hq (by rw [z]; exact .head _)⟩) (Nat.lt_succ_self _) F₁ fun q hq => ?_) (fun _ _ k => wpAny_mono k (fun _ _ k => turnPost_sub only k) fun _ _ e => e) fun _ _ e => e
    rcases List.mem_cons.mp hq with rfl | hq
    · exact N₁ _ (List.mem_append_left _ (hall _ (.head _) (new_of F (Nat.le_succ _)) _ he))
    rcases List.mem_cons.mp hq with rfl | hq
    · exact N₁ _ (List.mem_append_left _ (hall _ (.tail _ (.head _)) (new_of F (Nat.le_refl _)) _ hoi))
    · exact N₁ q (List.mem_append_right _ hq)
  · intro h tk m' nx F' N' _ hJ
    exact last h tk m' nx F' N' hJ
end
end Mine
namespace Mine
section
variable {prog : Program} {w : World} {A : Around} {E : Value → Shared → Prop} {s : Shared} {env : Env} {h₀ : Heap} {target : PySem.Expr} {body orelse : List Stmt} {Q : Flow → Shared → Prop} {m : Str → Option Value}
theorem for_loopF {iter : PySem.Expr} {pos : Pos} (_F : Fr h₀ env.locals s.heap m)
    (h : wpAny (model prog w) A (eval iter env) (fun xv s₁ => wpAny (model prog w) A (pyIter xv) (fun it s₂ => LoopE prog w A h₀ env target body orelse Q E it s₂) E s₁) E s)
    (hs : ∀ x, foldedSetIterable iter env x = pure x) (hE : PassesOwn (model prog w) A env E) :
    wpAny (model prog w) A (exec (.For target iter body orelse pos) env) Q E s := for_loopE h hs hE
end
end Mine
end
section
open PySem PySem.W PyProof.Rows
example (prog : Program) (w : World) (A : Around) (E : Value → Shared → Prop) (s : Shared) (Q : Value → Shared → Prop) (h : wpAny (model prog w) A (compareOp .Eq (.int 1 0) (.int 2 0)) Q E s) : wpAny (model prog w) A (compareOp .Eq (.int 1 0) (.int 2 0)) Q E s := by
  w_top off
  k_with_none
  first
    | (walk1; fail)
    | exact h
end
section
open PySem PySem.W PyProof.Rows PySem.Spec PySem.Calls
set_option Elab.async false
set_option autoImplicit false
set_option maxRecDepth 100000
namespace Mine
section
variable {prog : Program} {w : World} {A : Around} {E : Value → Shared → Prop} {s : Shared} {env : Env} {h₀ : Heap} {target : PySem.Expr} {body orelse : List Stmt} {Q : Flow → Shared → Prop} {m : Str → Option Value} {news : List (Addr × Obj)}
theorem kdp_at {kvs : List (Str × Value)} {c : List (Str × Int)} (hf : PyProof.V.FlatPairs PyData.str kvs (kdpD c)) {j : Nat} {k : Str} {v : Value} (hx : kvs[j]? = some (k, v)) : ∃ p, c[j]? = some p ∧ p.1 = k := by
  obtain ⟨dv, hd, _⟩ := hf.at hx
  have hd' : (c[j]?).map (fun p => (PyData.str p.1, PyData.int p.2)) = some (PyData.str k, dv) := by rw [← List.getElem?_map]; exact hd
  cases q : c[j]? with
  | none => rw [q] at hd'; cases hd'
  | some p =>
    rw [q] at hd'
    have e := congrArg Prod.fst (Option.some.inj hd')
    injection e with e
    exact ⟨p, rfl, e⟩
theorem loopE_dict {d : Addr} {od : Obj} {kvs : List (Str × Value)} {c : List (Str × Int)} (J : Nat → (Str → Option Value) → List (Addr × Obj) → Prop)
    (hh : A.handled = none) (lo : (d == sysModules) = false) (hd : od.IsDictOf (PySem.strKind prog w) kvs) (hf : PyProof.V.FlatPairs PyData.str kvs (kdpD c))
    (F : Fr h₀ env.locals s.heap m) (N : News h₀ env.locals s.heap news) (hm : (d, od) ∈ news) (h0 : J 0 m news)
    (step : ∀ i p t m₁ nx h tk I oI od', c[i]? = some p → od'.IsDictOf (PySem.strKind prog w) kvs → J i m₁ nx → (∀ q ∈ nx, q.1 ≠ I) → (∀ q ∈ news, q.1 < I) → Fr h₀ env.locals h m₁ → News h₀ env.locals h ((I, oI) :: (d, od') :: nx) →
      wpAny (model prog w) A (assign target env (.str p.1 t)) (fun _ s₃ => wpAny (model prog w) A (execs body env) (TurnPost h₀ env.locals [I] [(I, oI), (d, od')] (J (i + 1)) { s with heap := h, toks := tk } Q) E s₃) E { s with heap := h, toks := tk })
    (last : ∀ h tk m' nx, Fr h₀ env.locals h m' → News h₀ env.locals h nx → J c.length m' nx → wpAny (model prog w) A (execs orelse env) Q E { s with heap := h, toks := tk }) :
    wpAny (model prog w) A (pyIter (.ref d)) (fun it s₂ => LoopE prog w A h₀ env target body orelse Q E it s₂) E s := by
  have hdn := N _ hm
  have hdo : s.heap.DictOf (PySem.strKind prog w) d kvs := Heap.dictOf_iff.mpr ⟨od, hdn.1, hd⟩
  obtain ⟨ep, hat⟩ := hdo.dictAt
  have hlen : kvs.length = c.length := by rw [← hf.length, kdpD_length]
  have hne : d ≠ s.heap.objs.size := Nat.ne_of_lt hat.lt_size
  have hLs : env.locals < s.heap.objs.size := F.ns.lt
  refine wpAny_pyIter_dict lo hat ?_
  have W := Walks.dictKeys (prog := prog) (w := w) (knd := PySem.strKind prog w) hh s.heap.objs.size d hne kvs ep
  refine ⟨_, _, _, kvs.length, _, _, _, m, news, J, rfl, KTurns.ofWalks (target := target) W fun i v s Q E st q => letGo_keyiter st.1 q, ?_, ?_, ?_, ?_, F.push _, fun p hp => ⟨Heap.get?_push_of_some _ (N p hp).1, (N p hp).2⟩, h0, ?_, ?_⟩
  · simp only [List.mem_cons, List.not_mem_nil, or_false, not_or]
    exact ⟨Nat.ne_of_lt hLs, fun q => hdn.2.1 q.symm⟩
  · intro b hb
    rw [List.mem_singleton.mp hb]
    exact new_of F (Nat.le_refl _)
  · intro p hp q
    rw [List.mem_singleton] at q
    exact absurd (Heap.lt_size (N p hp).1) (q ▸ Nat.lt_irrefl _)
  · exact ⟨⟨_, Heap.get?_push_size _ rfl, rfl, rfl⟩, hat.push _⟩
  · rintro i v m₁ nx h tk own hi ⟨k, x, hx, hk⟩ hJ hn hfp hall hst F₁ N₁
    obtain ⟨oi, hoi, _⟩ := hst.1
    obtain ⟨t, rfl⟩ := Value.isStrOf_shape hk
    obtain ⟨p, hp, rfl⟩ := kdp_at hf hx
    obtain ⟨od', es, hod', hr⟩ := hst.2
    have hdown := hall _ (.tail _ (.head _)) hdn.2.2 _ hod'
    have only : ∀ q ∈ own, q ∈ [(s.heap.objs.size, oi), (d, od')] := fun q hq => by
      have z := hfp q hq
      have e := (N₁ q (List.mem_append_left _ hq)).1
      obtain ⟨a, o⟩ := q
      simp only [List.mem_cons, List.not_mem_nil, or_false] at z
      rcases z with rfl | rfl
      · have e1 := e.symm.trans hoi
        cases e1; exact .head _
      · have e1 := e.symm.trans hod'
        cases e1; exact .tail _ (.head _)
    refine wpAny_mono (step i p t m₁ nx h tk _ oi od' hp ⟨es, ep, hr⟩ hJ (fun q hq z => hn q hq (by rw [z]; exact .head _)) (fun q hq => Heap.lt_size (N q hq).1) F₁ fun q hq => ?_) (fun _ _ k => wpAny_mono k (fun _ _ k => turnPost_sub only k) fun _ _ e => e) fun _ _ e => e
    rcases List.mem_cons.mp hq with rfl | hq
    · exact N₁ _ (List.mem_append_left _ (hall _ (.head _) (new_of F (Nat.le_refl _)) _ hoi))
    rcases List.mem_cons.mp hq with rfl | hq
    · exact N₁ _ (List.mem_append_left _ hdown)
    · exact N₁ q (List.mem_append_right _ hq)
  · intro h tk m' nx F' N' _ hJ
    exact last h tk m' nx F' N' (hlen ▸ hJ)
end
end Mine
end
section
open PySem PySem.W PyProof.Rows
example (prog : Program) (w : World) (A : Around) (E : Value → Shared → Prop) (s : Shared) (Q : Value → Shared → Prop) (h : wpAny (model prog w) A (compareOp .Eq (.int 1 0) (.int 2 0)) Q E s) : wpAny (model prog w) A (compareOp .Eq (.int 1 0) (.int 2 0)) Q E s := by
  w_top off
  k_with_none
  first
    | (walk1; fail)
    | exact h
end
section
open PySem PySem.W PyProof.Rows PySem.Spec PySem.Calls
set_option Elab.async false
set_option autoImplicit false
set_option maxRecDepth 100000
set_option maxHeartbeats 8000000
set_option pp.deepTerms false
set_option pp.deepTerms.threshold 8
set_option pp.fieldNotation false
namespace Mine
example : (PySem.Challenge.rw_il0160_01 = PySem.Challenge.rw_il0160_01 ∧ hd.heap_39 = hd.heap_39) := by k_fill; exact ⟨rfl, rfl⟩
noncomputable def TABS : List (List (Int × Nat)) := [[(40960, 108), (49152, 115), (32768, 45), (24576, 98), (16384, 100), (8192, 99), (4096, 112)], [(256, 114)], [(128, 119)], [(2112, 115), (2048, 83), (64, 120)], [(32, 114)], [(16, 119)], [(1032, 115), (1024, 83), (8, 120)], [(4, 114)], [(2, 119)], [(513, 116), (512, 84), (1, 120)]]
noncomputable def hitB (f : Int) (i : Nat) (b : Int) : Bool := if i = 0 then decide (Builtin.bitAnd f 61440 = b) else decide (Builtin.bitAnd f b = b)
noncomputable def pickC (f : Int) (i : Nat) : Nat := match (TABS.getD i []).find? (fun p => hitB f i p.1) with
  | some p => p.2
  | none => if i = 0 then 63 else 45
noncomputable def charS (c : Nat) : Str := ⟨#[c]⟩
structure TabFact (h : Heap) (tab : Addr) (ps : List (Int × Nat)) : Prop where
  whole : ∃ its : Array Value, h.IsTuple tab its ∧ its.size = ps.length ∧ ∀ (j : Nat) (v : Value), its[j]? = some v → ∃ pa b c t u, v = Value.ref pa ∧ ps[j]? = some (b, c) ∧ h.IsTuple pa #[.int b t, .str (charS c) u]
theorem tab_one {h : Heap} {tab p0 : Addr} {b0 : Int} {c0 : Nat} {t0 u0 : Tok} (H : h.IsTuple tab #[.ref p0]) (H0 : h.IsTuple p0 #[.int b0 t0, .str (charS c0) u0]) : TabFact h tab [(b0, c0)] :=
  ⟨_, H, rfl, fun j v e => by
    match j, e with
    | 0, e => cases e; exact ⟨_, _, _, _, _, rfl, rfl, H0⟩⟩
theorem tab_three {h : Heap} {tab p0 p1 p2 : Addr} {b0 b1 b2 : Int} {c0 c1 c2 : Nat} {t0 u0 t1 u1 t2 u2 : Tok} (H : h.IsTuple tab #[.ref p0, .ref p1, .ref p2]) (H0 : h.IsTuple p0 #[.int b0 t0, .str (charS c0) u0])
    (H1 : h.IsTuple p1 #[.int b1 t1, .str (charS c1) u1]) (H2 : h.IsTuple p2 #[.int b2 t2, .str (charS c2) u2]) : TabFact h tab [(b0, c0), (b1, c1), (b2, c2)] :=
  ⟨_, H, rfl, fun j v e => by
    match j, e with
    | 0, e => cases e; exact ⟨_, _, _, _, _, rfl, rfl, H0⟩
    | 1, e => cases e; exact ⟨_, _, _, _, _, rfl, rfl, H1⟩
    | 2, e => cases e; exact ⟨_, _, _, _, _, rfl, rfl, H2⟩⟩
theorem tab_seven {h : Heap} {tab p0 p1 p2 p3 p4 p5 p6 : Addr} {b0 b1 b2 b3 b4 b5 b6 : Int} {c0 c1 c2 c3 c4 c5 c6 : Nat} {t0 u0 t1 u1 t2 u2 t3 u3 t4 u4 t5 u5 t6 u6 : Tok} (H : h.IsTuple tab #[.ref p0, .ref p1, .ref p2, .ref p3, .ref p4, .ref p5, .ref p6])
    (H0 : h.IsTuple p0 #[.int b0 t0, .str (charS c0) u0]) (H1 : h.IsTuple p1 #[.int b1 t1, .str (charS c1) u1]) (H2 : h.IsTuple p2 #[.int b2 t2, .str (charS c2) u2]) (H3 : h.IsTuple p3 #[.int b3 t3, .str (charS c3) u3])
    (H4 : h.IsTuple p4 #[.int b4 t4, .str (charS c4) u4]) (H5 : h.IsTuple p5 #[.int b5 t5, .str (charS c5) u5]) (H6 : h.IsTuple p6 #[.int b6 t6, .str (charS c6) u6]) :
    TabFact h tab [(b0, c0), (b1, c1), (b2, c2), (b3, c3), (b4, c4), (b5, c5), (b6, c6)] :=
  ⟨_, H, rfl, fun j v e => by
    match j, e with
    | 0, e => cases e; exact ⟨_, _, _, _, _, rfl, rfl, H0⟩
    | 1, e => cases e; exact ⟨_, _, _, _, _, rfl, rfl, H1⟩
    | 2, e => cases e; exact ⟨_, _, _, _, _, rfl, rfl, H2⟩
    | 3, e => cases e; exact ⟨_, _, _, _, _, rfl, rfl, H3⟩
    | 4, e => cases e; exact ⟨_, _, _, _, _, rfl, rfl, H4⟩
    | 5, e => cases e; exact ⟨_, _, _, _, _, rfl, rfl, H5⟩
    | 6, e => cases e; exact ⟨_, _, _, _, _, rfl, rfl, H6⟩⟩
theorem top_tup {K : Frag} {h : Heap} {a : Addr} {xs : Array Value} {n : Nat} (X : K.In h) (e : K.lookup a = some { cls := .type "tuple", data := .seq xs n }) : h.IsTuple a xs := ⟨_, X _ _ e, rfl, _, rfl⟩
theorem tabs_fact {w : World} {h : Heap} (X : (hd.heap_39 w.params).In h) : ∃ its : Array Value, h.IsTuple 106 its ∧ its.size = 10 ∧ ∀ (i : Nat) (v : Value), its[i]? = some v → ∃ tab ps, v = Value.ref tab ∧ TABS[i]? = some ps ∧ TabFact h tab ps := by
  refine ⟨_, top_tup X (by k_is), rfl, fun i v e => ?_⟩
  match i, e with
  | 0, e => cases e; exact ⟨_, _, rfl, rfl, tab_seven (top_tup X (by k_is)) (top_tup X (by k_is)) (top_tup X (by k_is)) (top_tup X (by k_is)) (top_tup X (by k_is)) (top_tup X (by k_is)) (top_tup X (by k_is)) (top_tup X (by k_is))⟩
  | 1, e => cases e; exact ⟨_, _, rfl, rfl, tab_one (top_tup X (by k_is)) (top_tup X (by k_is))⟩
  | 2, e => cases e; exact ⟨_, _, rfl, rfl, tab_one (top_tup X (by k_is)) (top_tup X (by k_is))⟩
  | 3, e => cases e; exact ⟨_, _, rfl, rfl, tab_three (top_tup X (by k_is)) (top_tup X (by k_is)) (top_tup X (by k_is)) (top_tup X (by k_is))⟩
  | 4, e => cases e; exact ⟨_, _, rfl, rfl, tab_one (top_tup X (by k_is)) (top_tup X (by k_is))⟩
  | 5, e => cases e; exact ⟨_, _, rfl, rfl, tab_one (top_tup X (by k_is)) (top_tup X (by k_is))⟩
  | 6, e => cases e; exact ⟨_, _, rfl, rfl, tab_three (top_tup X (by k_is)) (top_tup X (by k_is)) (top_tup X (by k_is)) (top_tup X (by k_is))⟩
  | 7, e => cases e; exact ⟨_, _, rfl, rfl, tab_one (top_tup X (by k_is)) (top_tup X (by k_is))⟩
  | 8, e => cases e; exact ⟨_, _, rfl, rfl, tab_one (top_tup X (by k_is)) (top_tup X (by k_is))⟩
  | 9, e => cases e; exact ⟨_, _, rfl, rfl, tab_three (top_tup X (by k_is)) (top_tup X (by k_is)) (top_tup X (by k_is)) (top_tup X (by k_is))⟩
end Mine
end
section
open PySem PySem.W PyProof.Rows
example (prog : Program) (w : World) (A : Around) (E : Value → Shared → Prop) (s : Shared) (Q : Value → Shared → Prop) (h : wpAny (model prog w) A (compareOp .Eq (.int 1 0) (.int 2 0)) Q E s) : wpAny (model prog w) A (compareOp .Eq (.int 1 0) (.int 2 0)) Q E s := by
  w_top off
  k_with_none
  first
    | (walk1; fail)
    | exact h
end
section
open PySem PySem.W PyProof.Rows PySem.Spec PySem.Calls
set_option Elab.async false
set_option autoImplicit false
set_option maxRecDepth 100000
set_option maxHeartbeats 8000000
set_option pp.deepTerms false
set_option pp.deepTerms.threshold 8
set_option pp.fieldNotation false
namespace Mine
example : (PySem.Challenge.rw_il0160_01 = PySem.Challenge.rw_il0160_01 ∧ hd.heap_39 = hd.heap_39) := by k_fill; exact ⟨rfl, rfl⟩
theorem ne_nat {a b : Addr} (h : a ≠ b) : @Ne Nat a b := h
noncomputable def modeS (f : Int) : Str := Txt.join (Str.ofString "") ((List.range 10).map fun j => charS (pickC f j))
theorem modeS_eq (f : Int) : modeS f = ⟨#[pickC f 0, pickC f 1, pickC f 2, pickC f 3, pickC f 4, pickC f 5, pickC f 6, pickC f 7, pickC f 8, pickC f 9]⟩ := by
  unfold modeS Txt.join
  rfl
theorem modeS_len (f : Int) : (modeS f).length = 10 := by rw [modeS_eq]; rfl
theorem ifmt_call {w : World} {loose : List Str} {mean : ExcName → Option Value} {mg mb : Str → Option Value} {news : List (Addr × Obj)}
    {dp un : Nat} {gd : Option (List Code)} {cn : Str} {cs : Scope} {a₁ : Addr} {ccd : Value} {cl : List (Str × Addr)} {outer : List Env} {A₀ : Around} {base h₀ : Heap} {L : Addr} {m : Str → Option Value} {s : Shared} {Q E : Value → Shared → Prop} {f : Int} {t1 : Tok}
    (B : Below A₀ base outer h₀) (F : Fr h₀ L s.heap m) (X : (hd.heap_39 w.params).In h₀) (N : News h₀ L s.heap news) (T : Top hd.view_39 loose mean mg mb h₀) (hk : cs.kind = .function) (hdp : dp + 1 < recursionLimit)
    (hret : ∀ (t : Tok) (h' : Heap) (tk' : Nat), Fr h₀ L h' m → News h₀ L h' news → Q (.int (Builtin.bitAnd f 61440) t) { s with heap := h', toks := tk' }) :
    wpAny (model (RowW.prog (OpenRow.toRowW (OpenLaw.row PySem.Challenge.rw_il0160_01))) w) (ktrTop dp un gd cn cs L a₁ ccd cl outer) (call (.ref 73) [.int f t1]) Q E s := by
  k_with_none
  k_with "exec For Tuple Call" => (k_here; (rename Fr _ _ _ _ => lF'); (with_unfolding_all refine' for_loopF lF' ?_ (by intro _; rfl) (by passes_own)); k_whole)
  k_with "exec For Tuple Name" => (k_here; (rename Fr _ _ _ _ => lF'); (with_unfolding_all refine' for_loopF lF' ?_ (by intro _; rfl) (by passes_own)); k_whole)
  refine wpAny_call ?_
  cell_enter
  k_steps
  exact hret _ _ _ (by assumption) (by assumption)
theorem fr_stored {h₀ h : Heap} {L : Addr} {m₀ m₁ : Str → Option Value} (st : List Str) (hm : ∀ z, st.contains z = false → m₁ z = m₀ z) (F : Fr h₀ L h m₁) : Fr h₀ L h (fun y => if st.contains y then m₁ y else m₀ y) := by
  have e : (fun y => if st.contains y then m₁ y else m₀ y) = m₁ := by
    funext y
    cases q : st.contains y with
    | true => simp
    | false => simp only [Bool.false_eq_true, if_false]; exact (hm y q).symm
  rw [e]; exact F
noncomputable def permS (f : Int) (i : Nat) : List Str := (List.range i).map fun j => charS (pickC f j)
noncomputable def JM (f : Int) (P : Addr) (news : List (Addr × Obj)) (st : List Str) (m₀ : Str → Option Value) (i : Nat) (m₁ : Str → Option Value) (nx : List (Addr × Obj)) : Prop :=
  ∃ (vs : List Value) (n : Nat), nx = (P, W.listOf vs.toArray n) :: news ∧ StrsAre vs (permS f i) ∧ ∀ z, st.contains z = false → m₁ z = m₀ z
noncomputable def JI (f : Int) (i : Nat) (ps : List (Int × Nat)) (led : List (Addr × Obj)) (st : List Str) (m₀ : Str → Option Value) (j : Nat) (m₁ : Str → Option Value) (nx : List (Addr × Obj)) : Prop :=
  nx = led ∧ (∀ (q : Nat) (p : Int × Nat), q < j → ps[q]? = some p → hitB f i p.1 = false) ∧ ∀ z, st.contains z = false → m₁ z = m₀ z
theorem find_at {α : Type} (P : α → Bool) : ∀ (ps : List α) (j : Nat) (p : α), ps[j]? = some p → P p = true → (∀ (q : Nat) (r : α), q < j → ps[q]? = some r → P r = false) → ps.find? P = some p
  | [], j, p, h, _, _ => by simp at h
  | x :: r, 0, p, h, hp, _ => by
    have e : x = p := by simpa using h
    subst e; simp [List.find?, hp]
  | x :: r, j + 1, p, h, hp, hn => by
    have e := hn 0 x (by omega) rfl
    rw [List.find?_cons, e]
    exact find_at P r j p (by simpa using h) hp fun q y hq hy => hn (q + 1) y (by omega) (by simpa using hy)
theorem find_no {α : Type} (P : α → Bool) (ps : List α) (hn : ∀ (q : Nat) (r : α), q < ps.length → ps[q]? = some r → P r = false) : ps.find? P = none := by
  rw [List.find?_eq_none]
  intro x hx
  obtain ⟨q, hq, rfl⟩ := List.mem_iff_getElem.mp hx
  simp [hn q _ hq (List.getElem?_eq_getElem hq)]
theorem pick_hit {f : Int} {i j : Nat} {ps : List (Int × Nat)} {b : Int} {c : Nat} (hT : TABS[i]? = some ps) (h : ps[j]? = some (b, c)) (hn : ∀ (q : Nat) (p : Int × Nat), q < j → ps[q]? = some p → hitB f i p.1 = false) (hb : hitB f i b = true) : pickC f i = c := by
  unfold pickC
  have e : TABS.getD i [] = ps := by rw [List.getD_eq_getElem?_getD, hT]; rfl
  rw [e, find_at (fun p => hitB f i p.1) ps j (b, c) h hb hn]
theorem pick_none {f : Int} {i : Nat} {ps : List (Int × Nat)} (hT : TABS[i]? = some ps) (hn : ∀ (q : Nat) (p : Int × Nat), q < ps.length → ps[q]? = some p → hitB f i p.1 = false) : pickC f i = if i = 0 then 63 else 45 := by
  unfold pickC
  have e : TABS.getD i [] = ps := by rw [List.getD_eq_getElem?_getD, hT]; rfl
  rw [e, find_no (fun p => hitB f i p.1) ps hn]
theorem permS_succ (f : Int) (i : Nat) : permS f (i + 1) = permS f i ++ [charS (pickC f i)] := by
  unfold permS
  rw [List.range_succ, List.map_append]; rfl
theorem jm_end {f : Int} {P I I' L : Addr} {oI oI' : Obj} {g h' : Heap} {news : List (Addr × Obj)} {st : List Str} {m₀ m' : Str → Option Value} {i n c : Nat} {u : Tok} {vs : List Value} {s₁ : Shared} {tk : Nat} {Q : Flow → Shared → Prop}
    (F : Fr g L h' m') (N : News g L h' ((I', oI') :: (I, oI) :: (P, W.listOf (vs.toArray.push (.str (charS c) u)) (n + 1)) :: news)) (hS : StrsAre vs (permS f i)) (hp : pickC f i = c)
    (hne : ∀ p ∈ (P, W.listOf vs.toArray n) :: news, p.1 ≠ I ∧ p.1 ≠ I') (hm : ∀ z, st.contains z = false → m' z = m₀ z) :
    TurnPost g L [I', I] [(I', oI'), (I, oI)] (JM f P news st m₀ (i + 1)) s₁ Q .next { s₁ with heap := h', toks := tk } := by
  refine ⟨h', tk, m', (P, W.listOf (vs.toArray.push (.str (charS c) u)) (n + 1)) :: news, rfl, F, N, ?_, vs ++ [.str (charS c) u], n + 1, by rw [List.push_toArray], ?_, hm⟩
  · intro p hp q
    have k : p.1 ≠ I ∧ p.1 ≠ I' := by
      rcases List.mem_cons.mp hp with rfl | hp
      · exact (hne (P, W.listOf vs.toArray n) (.head _) : P ≠ I ∧ P ≠ I')
      · exact hne p (.tail _ hp)
    simp only [List.mem_cons, List.not_mem_nil, or_false] at q
    rcases q with q | q
    · exact k.2 q
    · exact k.1 q
  · rw [permS_succ, hp]
    exact PyProof.Rows.StrsAre.append' hS (.cons _ _ .nil)
theorem ji_end {f : Int} {i j : Nat} {ps : List (Int × Nat)} {I3 L : Addr} {oI3 : Obj} {g h' : Heap} {led : List (Addr × Obj)} {st : List Str} {m₀ m' : Str → Option Value} {b : Int} {c : Nat} {s₁ : Shared} {tk : Nat} {Q : Flow → Shared → Prop}
    (F : Fr g L h' m') (N : News g L h' ((I3, oI3) :: led)) (hne : ∀ p ∈ led, p.1 ≠ I3) (hp : ps[j]? = some (b, c)) (hno : ∀ (q : Nat) (p : Int × Nat), q < j → ps[q]? = some p → hitB f i p.1 = false) (hb : hitB f i b = false)
    (hm : ∀ z, st.contains z = false → m' z = m₀ z) :
    TurnPost g L [I3] [(I3, oI3)] (JI f i ps led st m₀ (j + 1)) s₁ Q .next { s₁ with heap := h', toks := tk } := by
  refine ⟨h', tk, m', led, rfl, F, N, fun p hp q => hne p hp (List.mem_singleton.mp q), rfl, fun q p hq e => ?_, hm⟩
  rcases Nat.lt_or_ge q j with h | h
  · exact hno q p h e
  · have : q = j := by omega
    subst this
    rw [hp] at e; cases e; exact hb
theorem hit0 {f b : Int} (h : Builtin.bitAnd f 61440 = b) : hitB f 0 b = true := by simp [hitB, h]
theorem miss0 {f b : Int} (h : Builtin.bitAnd f 61440 ≠ b) : hitB f 0 b = false := by simp [hitB, h]
theorem hitS {f b : Int} {i : Nat} (h : Builtin.bitAnd f b = b) : hitB f (i + 1) b = true := by simp [hitB, h]
theorem missS {f b : Int} {i : Nat} (h : Builtin.bitAnd f b ≠ b) : hitB f (i + 1) b = false := by simp [hitB, h]
theorem news_tail {h₀ h : Heap} {L : Addr} {p : Addr × Obj} {r : List (Addr × Obj)} (N : News h₀ L h (p :: r)) : News h₀ L h r := fun x hx => N x (.tail _ hx)
theorem filemode_call {w : World} {loose : List Str} {mean : ExcName → Option Value} {mg mb : Str → Option Value} {news : List (Addr × Obj)}
    {dp un : Nat} {gd : Option (List Code)} {cn : Str} {cs : Scope} {a₁ : Addr} {ccd : Value} {cl : List (Str × Addr)} {outer : List Env} {A₀ : Around} {base h₀ : Heap} {L : Addr} {m : Str → Option Value} {s : Shared} {Q E : Value → Shared → Prop} {f : Int} {t1 : Tok}
    (B : Below A₀ base outer h₀) (F : Fr h₀ L s.heap m) (X : (hd.heap_39 w.params).In h₀) (N : News h₀ L s.heap news) (T : Top hd.view_39 loose mean mg mb h₀) (hk : cs.kind = .function) (hdp : dp + 2 < recursionLimit)
    (hret : ∀ (t : Tok) (h' : Heap) (tk' : Nat) (S : Str), S = modeS f → S.length = 10 → Fr h₀ L h' m → News h₀ L h' news → Q (.str S t) { s with heap := h', toks := tk' }) :
    wpAny (model (RowW.prog (OpenRow.toRowW (OpenLaw.row PySem.Challenge.rw_il0160_01))) w) (ktrTop dp un gd cn cs L a₁ ccd cl outer) (call (.ref 113) [.int f t1]) Q E s := by
  k_with_none
  k_with "exec For Tuple Call" => (k_here; (rename Fr _ _ _ _ => lF'); (with_unfolding_all refine' for_loopF lF' ?_ (by intro _; rfl) (by passes_own)); k_whole)
  k_with "exec For Tuple Name" => (k_here; (rename Fr _ _ _ _ => lF'); (with_unfolding_all refine' for_loopF lF' ?_ (by intro _; rfl) (by passes_own)); k_whole)
  k_with "call ref" => (k_here; k_dflt (refine' ifmt_call ?B ?F ?X ?N ?T ?K ?dp ?_; (case B => k_asm); (case F => k_asm); (case X => k_asm); (case N => k_asm); (case T => k_asm); (case K => first | exact rfl | assumption); (case dp => ktr_room)); intro t9 h9 tk9 F9 N9; (try dsimp only); (try k_fold))
  refine wpAny_call ?_
  cell_enter
  have kMk := kstMark
  k_steps
  rename Fr _ _ _ _ => F0
  rename News _ _ _ _ => N0
  obtain ⟨its, hT, hsz, hfact⟩ := tabs_fact (by assumption)
  have hh : (Around.handled (Around.deeper (ktrTop dp un gd cn cs L a₁ ccd cl outer) default)) = none := rfl
  refine loopE_enum (JM f _ news [Str.ofString "index", Str.ofString "table", Str.ofString "bit", Str.ofString "char"] _) rfl hT F0 N0 ⟨[], 0, rfl, .nil, fun _ _ => rfl⟩ ?_ ?_
  · rintro i v T' u m₁ nx h tk I oI I' oI' hv hTT ⟨vs, n, rfl, hS, hm⟩ hne hlt F1 N1
    obtain ⟨hne1, hne1'⟩ := hne _ (.head _)
    replace hne1 := ne_nat hne1
    replace hne1' := ne_nat hne1'
    dsimp only at hne1 hne1'
    replace F1 := fr_stored _ hm F1
    clear F0 N0
    have hi10 : i < 10 := by rw [← hsz]; exact (Array.getElem?_eq_some_iff.mp hv).1
    have hlen : vs.length = i := by rw [hS.length]; simp [permS]
    have hz9 : vs.toArray.size ≤ sizeLine := by rw [List.size_toArray, hlen, sizeLine_eq]; omega
    obtain ⟨tab, ps, rfl, hps, ⟨its', hT', hsz', hpairs⟩⟩ := hfact i v hv
    k_steps
    rename Fr _ _ _ _ => F2
    rename News _ _ _ _ => N2
    cases i with
    | zero =>
      refine loopE_tup (JI f 0 ps _ [Str.ofString "bit", Str.ofString "char"] _) rfl hT' F2 N2 ⟨rfl, fun _ _ h9 => absurd h9 (Nat.not_lt_zero _), fun _ _ => rfl⟩ ?_ ?_
      · rintro j v' m₂ nx h3 tk3 I3 oI3 hv' ⟨rfl, hno, hm2⟩ hne3 F3 N3
        have hne4 := ne_nat (hne3 _ (.tail _ (.tail _ (.head _))))
        dsimp only at hne4
        replace F3 := fr_stored _ hm2 F3
        clear F2 N2
        obtain ⟨pa, b, c, t', u', rfl, hpj, hTp⟩ := hpairs j v' hv'
        k_steps
        · dsimp only [TurnPost]
          k_steps
          exact jm_end (by assumption) (news_tail (by assumption)) hS (pick_hit hps hpj hno (hit0 (by assumption))) hne (by intro z hz; simp only [List.contains_cons, List.contains_nil, Bool.or_false, Bool.or_eq_false_iff, beq_eq_false_iff_ne, ne_eq] at hz; simp [hz])
        · exact ji_end (by assumption) (by assumption) hne3 hpj hno (miss0 (by assumption)) (by intro z hz; simp only [List.contains_cons, List.contains_nil, Bool.or_false, Bool.or_eq_false_iff, beq_eq_false_iff_ne, ne_eq] at hz; simp [hz])
      · rintro h3 tk3 m₂ nx F3 N3 ⟨rfl, hno, hm2⟩
        replace F3 := fr_stored _ hm2 F3
        clear F2 N2
        k_steps
        exact jm_end (by assumption) (by assumption) hS (pick_none hps fun q p hq e => hno q p (by rw [hsz']; exact hq) e) hne (by intro z hz; simp only [List.contains_cons, List.contains_nil, Bool.or_false, Bool.or_eq_false_iff, beq_eq_false_iff_ne, ne_eq] at hz; simp [hz])
    | succ i =>
      refine loopE_tup (JI f (i + 1) ps _ [Str.ofString "bit", Str.ofString "char"] _) rfl hT' F2 N2 ⟨rfl, fun _ _ h9 => absurd h9 (Nat.not_lt_zero _), fun _ _ => rfl⟩ ?_ ?_
      · rintro j v' m₂ nx h3 tk3 I3 oI3 hv' ⟨rfl, hno, hm2⟩ hne3 F3 N3
        have hne4 := ne_nat (hne3 _ (.tail _ (.tail _ (.head _))))
        dsimp only at hne4
        replace F3 := fr_stored _ hm2 F3
        clear F2 N2
        obtain ⟨pa, b, c, t', u', rfl, hpj, hTp⟩ := hpairs j v' hv'
        k_steps
        all_goals (try (exfalso; omega))
        · dsimp only [TurnPost]
          k_steps
          exact jm_end (by assumption) (news_tail (by assumption)) hS (pick_hit hps hpj hno (hitS (by assumption))) hne (by intro z hz; simp only [List.contains_cons, List.contains_nil, Bool.or_false, Bool.or_eq_false_iff, beq_eq_false_iff_ne, ne_eq] at hz; simp [hz])
        · exact ji_end (by assumption) (by assumption) hne3 hpj hno (missS (by assumption)) (by intro z hz; simp only [List.contains_cons, List.contains_nil, Bool.or_false, Bool.or_eq_false_iff, beq_eq_false_iff_ne, ne_eq] at hz; simp [hz])
      · rintro h3 tk3 m₂ nx F3 N3 ⟨rfl, hno, hm2⟩
        replace F3 := fr_stored _ hm2 F3
        clear F2 N2
        k_steps
        all_goals (try (exfalso; omega))
        exact jm_end (by assumption) (by assumption) hS (pick_none hps fun q p hq e => hno q p (by rw [hsz']; exact hq) e) hne (by intro z hz; simp only [List.contains_cons, List.contains_nil, Bool.or_false, Bool.or_eq_false_iff, beq_eq_false_iff_ne, ne_eq] at hz; simp [hz])
  · rintro h tk m₁ nx F1 N1 ⟨vs, n, rfl, hS, hm⟩
    rw [hsz] at hS
    replace F1 := fr_stored _ hm F1
    clear F0 N0
    k_steps
    refine join_listW (News.isList (by assumption) (.head _)) (by simpa using hS) (by decide +kernel) ?_ ?_
    · exact (by decide : (20 : Nat) ≤ 1048576)
    intro t9 k9
    k_steps
    exact hret _ _ _ _ rfl (modeS_len f) (by assumption) (news_tail (by assumption))
end Mine
end
section
open PySem PySem.W PyProof.Rows
example (prog : Program) (w : World) (A : Around) (E : Value → Shared → Prop) (s : Shared) (Q : Value → Shared → Prop) (h : wpAny (model prog w) A (compareOp .Eq (.int 1 0) (.int 2 0)) Q E s) : wpAny (model prog w) A (compareOp .Eq (.int 1 0) (.int 2 0)) Q E s := by
  w_top off
  k_with_none
  first
    | (walk1; fail)
    | exact h
end
section
open PySem PySem.W PyProof.Rows PySem.Spec PySem.Calls
set_option Elab.async false
set_option autoImplicit false
set_option maxRecDepth 100000
namespace Mine
inductive BysAre : List Value → List (Array UInt8) → Prop
  | nil : BysAre [] []
  | cons {vs : List Value} {bs : List (Array UInt8)} (b : Array UInt8) (t : Tok) (h : BysAre vs bs) : BysAre (.bytes b t :: vs) (b :: bs)
theorem BysAre.snoc {vs : List Value} {bs : List (Array UInt8)} (h : BysAre vs bs) (b : Array UInt8) (t : Tok) : BysAre (vs ++ [.bytes b t]) (bs ++ [b]) := by
  induction h with
  | nil => exact .cons b t .nil
  | cons b' t' _ ih => exact .cons b' t' ih
theorem BysAre.length {vs : List Value} {bs : List (Array UInt8)} (h : BysAre vs bs) : vs.length = bs.length := by
  induction h with
  | nil => rfl
  | cons _ _ _ ih => simp [ih]
abbrev pairObj (a b : Str) (t u : Tok) (n : Nat) : Obj := { cls := .type "tuple", data := .seq #[.str a t, .str b u] n }
inductive RefsAre (led : List (Addr × Obj)) : List Value → List (Str × Str) → Prop
  | nil : RefsAre led [] []
  | cons {vs : List Value} {rs : List (Str × Str)} {T : Addr} {a b : Str} {t u : Tok} {n : Nat} (hm : (T, pairObj a b t u n) ∈ led) (h : RefsAre led vs rs) : RefsAre led (.ref T :: vs) ((a, b) :: rs)
theorem RefsAre.mono {led led' : List (Addr × Obj)} (hs : ∀ p ∈ led, p ∈ led') {vs : List Value} {rs : List (Str × Str)} (h : RefsAre led vs rs) : RefsAre led' vs rs := by
  induction h with
  | nil => exact .nil
  | cons hm _ ih => exact .cons (hs _ hm) ih
theorem RefsAre.snoc {led : List (Addr × Obj)} {vs : List Value} {rs : List (Str × Str)} (h : RefsAre led vs rs) {T : Addr} {a b : Str} {t u : Tok} {n : Nat} (hm : (T, pairObj a b t u n) ∈ led) : RefsAre led (vs ++ [.ref T]) (rs ++ [(a, b)]) := by
  induction h with
  | nil => exact .cons hm .nil
  | cons hm' _ ih => exact .cons hm' ih
theorem RefsAre.length {led : List (Addr × Obj)} {vs : List Value} {rs : List (Str × Str)} (h : RefsAre led vs rs) : vs.length = rs.length := by
  induction h with
  | nil => rfl
  | cons _ _ ih => simp [ih]
noncomputable def asc (p : Str × Int) : Bool := p.1.cps.all (· < 128)
noncomputable def enc (s : Str) : Array UInt8 := (s.cps.toList.map Nat.toUInt8).toArray
noncomputable def lineS (p : Str × Int) : Str := rowS p.2 ++ Str.ofString " " ++ p.1
noncomputable def msgS : Str := Str.ofString "string argument should contain only ASCII characters"
noncomputable def sameB (a b : Int) : Bool := decide (Int.fmod (a - b) 4096 = 0) && decide (kindS a = kindS b)
noncomputable def dueRows (l : List (Str × Int)) : List (Array UInt8) := (l.filter asc).map fun p => enc (lineS p)
noncomputable def dueRef (l : List (Str × Int)) : List (Str × Str) := (l.filter fun p => !asc p).map fun p => (p.1, msgS)
noncomputable def dueOnly (o l : List (Str × Int)) : List (Array UInt8) := (l.filter fun p => asc p && !kdpHas o p.1).map fun p => enc p.1
noncomputable def dueSame (o l : List (Str × Int)) : List (Array UInt8) := (l.filter fun p => asc p && (kdpHas o p.1 && sameB p.2 (kdpLook o p.1 0))).map fun p => enc (lineS p)
noncomputable def dueChg (o l : List (Str × Int)) : List (Array UInt8) := (l.filter fun p => asc p && (kdpHas o p.1 && !sameB p.2 (kdpLook o p.1 0))).map fun p => enc p.1
structure JD (c o : List (Str × Int)) (R1 R2 R3 R4 R5 : Addr) (news : List (Addr × Obj)) (st : List Str) (m₀ : Str → Option Value) (i : Nat) (m₁ : Str → Option Value) (nx : List (Addr × Obj)) : Prop where
  out : ∃ (v1 v2 v3 v4 v5 : List Value) (n1 n2 n3 n4 n5 : Nat) (rest : List (Addr × Obj)),
    nx = (R5, W.listOf v5.toArray n5) :: (R4, W.listOf v4.toArray n4) :: (R3, W.listOf v3.toArray n3) :: (R2, W.listOf v2.toArray n2) :: (R1, W.listOf v1.toArray n1) :: rest ∧
    (∀ p ∈ news, p ∈ rest) ∧ OwnOff rest [R1, R2, R3, R4, R5] ∧ BysAre v1 (dueRows (c.take i)) ∧ RefsAre rest v2 (dueRef (c.take i)) ∧ BysAre v3 (dueOnly o (c.take i)) ∧ BysAre v4 (dueSame o (c.take i)) ∧ BysAre v5 (dueChg o (c.take i)) ∧
    ∀ z, st.contains z = false → m₁ z = m₀ z
structure DF (prog : Program) (w : World) (news : List (Addr × Obj)) (d : Addr) (od : Obj) (kv : List (Str × Value)) (c : List (Str × Int)) : Prop where
  mem : (d, od) ∈ news
  lo : (d == sysModules) = false
  dict : od.IsDictOf (PySem.strKind prog w) kv
  flat : PyProof.V.FlatPairs PyData.str kv (kdpD c)
  names : NamesOk c
  short : c.length ≤ 10
theorem keys_eq {kvs : List (Str × Value)} {c : List (Str × Int)} (hf : PyProof.V.FlatPairs PyData.str kvs (kdpD c)) : kvs.map (·.1) = c.map (·.1) := by
  have hl : kvs.length = c.length := by rw [← hf.length, kdpD_length]
  apply List.ext_getElem?
  intro j
  rw [List.getElem?_map, List.getElem?_map]
  cases q : kvs[j]? with
  | none =>
    have h1 : kvs.length ≤ j := by simpa using q
    rw [List.getElem?_eq_none (by omega : c.length ≤ j)]
    rfl
  | some kv =>
    obtain ⟨k, v⟩ := kv
    obtain ⟨p, hp, e⟩ := kdp_at hf q
    rw [hp]; simp [e]
theorem DF.nod {prog : Program} {w : World} {news : List (Addr × Obj)} {d : Addr} {od : Obj} {kv : List (Str × Value)} {c : List (Str × Int)} (D : DF prog w news d od kv c) : (c.map (·.1)).Nodup := by
  obtain ⟨_, _, _, _, _, _, hn⟩ := D.dict
  rw [← keys_eq D.flat]; exact hn
theorem look_at {c : List (Str × Int)} (hn : (c.map (·.1)).Nodup) {i : Nat} {k : Str} {v : Int} (h : c[i]? = some (k, v)) : kdpLook c k 0 = v := by
  have hm := List.mem_of_getElem? h
  clear h
  induction c with
  | nil => cases hm
  | cons p r ih =>
    rw [List.map_cons, List.nodup_cons] at hn
    rcases List.mem_cons.mp hm with rfl | hm
    · simp [kdpLook]
    · have hne : p.1 ≠ k := fun e => hn.1 (by rw [e]; exact List.mem_map_of_mem (f := (·.1)) hm)
      have := ih hn.2 hm
      simpa [kdpLook, hne] using this
theorem has_at {c : List (Str × Int)} {i : Nat} {k : Str} {v : Int} (h : c[i]? = some (k, v)) : kdpHas c k = true := by
  simp only [kdpHas, List.any_eq_true]
  exact ⟨_, List.mem_of_getElem? h, by simp⟩
theorem ownOff_of {rest : List (Addr × Obj)} {R1 R2 R3 R4 R5 : Addr} (h1 : ∀ p ∈ rest, p.1 < R1) (h2 : AllLt R2 rest) (h3 : AllLt R3 rest) (h4 : AllLt R4 rest) (h5 : AllLt R5 rest) : OwnOff rest [R1, R2, R3, R4, R5] := by
  intro p hp b hb
  simp only [List.mem_cons, List.not_mem_nil, or_false] at hb
  rcases hb with rfl | rfl | rfl | rfl | rfl
  · exact Nat.ne_of_lt (h1 p hp)
  · exact Nat.ne_of_lt (kst_ltOf h2 p hp)
  · exact Nat.ne_of_lt (kst_ltOf h3 p hp)
  · exact Nat.ne_of_lt (kst_ltOf h4 p hp)
  · exact Nat.ne_of_lt (kst_ltOf h5 p hp)
theorem mem_skip5 {p a b c d e : Addr × Obj} {r : List (Addr × Obj)} (h : p ∈ r) : p ∈ a :: b :: c :: d :: e :: r := .tail _ (.tail _ (.tail _ (.tail _ (.tail _ h))))
end Mine
end
section
open PySem PySem.W PyProof.Rows
example (prog : Program) (w : World) (A : Around) (E : Value → Shared → Prop) (s : Shared) (Q : Value → Shared → Prop) (h : wpAny (model prog w) A (compareOp .Eq (.int 1 0) (.int 2 0)) Q E s) : wpAny (model prog w) A (compareOp .Eq (.int 1 0) (.int 2 0)) Q E s := by
  w_top off
  k_with_none
  first
    | (walk1; fail)
    | exact h
end
section
open PySem PySem.W PyProof.Rows PySem.Spec PySem.Calls
set_option Elab.async false
set_option autoImplicit false
set_option maxRecDepth 100000
namespace Mine
noncomputable def byK : ItemKind (Array UInt8) := ⟨fun a v => ∃ t, v = .bytes a t, fun v => match v with | .bytes a _ => some a | _ => none, fun _ _ h => by obtain ⟨t, rfl⟩ := h; rfl⟩
theorem BysAre.are {vs : List Value} {bs : List (Array UInt8)} (h : BysAre vs bs) : AreOf byK vs bs := by
  induction h with
  | nil => exact .nil
  | cons b t _ ih => exact .cons ⟨t, rfl⟩ ih
theorem bysAre_of {vs : List Value} {bs : List (Array UInt8)} (h : AreOf byK vs bs) : BysAre vs bs := by
  induction h with
  | nil => exact .nil
  | cons hi _ ih => obtain ⟨t, rfl⟩ := hi; exact .cons _ t ih
theorem intsAre_of {vs : List Value} {bs : List Int} (h : AreOf .int vs bs) : IntsAre vs bs := by
  induction h with
  | nil => exact .nil
  | cons hi _ ih => obtain ⟨t, rfl⟩ := hi; exact .cons _ t ih
theorem pairedK {α β : Type} {K : ItemKind α} {K' : ItemKind β} (pz : α → Bool) (g : α → β) : ∀ {vs : List Value} {as : List α}, AreOf K vs as → ∀ ys : List Value,
    Paired (fun v y => ∃ a, K.is a v ∧ K'.is (g a) y) (vs.filter (K.lift pz)) ys → AreOf K' ys ((as.filter pz).map g)
  | _, _, .nil, ys, h => by cases h; exact .nil
  | _, _, .cons (a := a) hi hr, ys, h => by
    cases hp : pz a with
    | false =>
      rw [List.filter_cons_of_neg (by rw [ItemKind.lift_is hi, hp]; exact Bool.false_ne_true)] at h
      rw [List.filter_cons_of_neg (by simp [hp])]
      exact pairedK pz g hr ys h
    | true =>
      rw [List.filter_cons_of_pos (by rw [ItemKind.lift_is hi, hp])] at h
      rw [List.filter_cons_of_pos (by simp [hp])]
      cases h with
      | cons h1 h2 =>
        obtain ⟨a', ha', hb⟩ := h1
        have e := (K.ok _ _ ha').symm.trans (K.ok _ _ hi)
        cases e
        exact .cons hb (pairedK pz g hr _ h2)
noncomputable def codes (S : Str) : List Int := S.cps.toList.map Int.ofNat
theorem map_codes (S : Str) : (signs S).map (fun a => ((a.cps.getD 0 0 : Nat) : Int)) = codes S := by
  simp [signs, codes]
section
variable {prog : Program} {w : World} {A : Around} {E : Value → Shared → Prop} {s : Shared} {env : Env} {h₀ : Heap} {L : Addr} {m : Str → Option Value} {news : List (Addr × Obj)}
noncomputable def CompFin {β : Type} (K' : ItemKind β) (h₀ : Heap) (L : Addr) (m : Str → Option Value) (news : List (Addr × Obj)) (s₁ : Shared) (bs : List β) (Q : Value → Shared → Prop) : Prop :=
  ∀ D ys n h' tk, Fr h₀ L h' m → News h₀ L h' ((D, W.listOf (List.toArray ys) n) :: news) → (∀ p ∈ news, @Ne Nat p.1 D) → AreOf K' ys bs → Q (.ref D) { s₁ with heap := h', toks := tk }
noncomputable def CompEls {α β : Type} (K : ItemKind α) (K' : ItemKind β) (prog : Program) (w : World) (A : Around) (h₀ : Heap) (L : Addr) (m : Str → Option Value) (env : Env) (scope : Scope) (x : Str) (ifs : List Expr) (elt : Expr) (pz : α → Bool) (g : α → β) (as : List α) : Prop :=
  (∀ C a v (s₃ : Shared) m₃ E', a ∈ as → K.is a v → s₃.heap.Ns C m₃ → m₃ x = some v → Fr h₀ L s₃.heap m →
    wpAny (model prog w) A (forIn ifs true fun c r => if r = true then do let ok ← isTrue c (compEnv scope C env) (eval c (compEnv scope C env)); pure (ForInStep.yield ok) else pure (ForInStep.yield r))
      (fun ok s₄ => ok = pz a ∧ Keeps s₃ s₄) E' s₃) ∧
  (∀ C a v (s₃ : Shared) m₃ E', a ∈ as → K.is a v → pz a = true → s₃.heap.Ns C m₃ → m₃ x = some v → Fr h₀ L s₃.heap m →
    wpAny (model prog w) A (eval elt (compEnv scope C env)) (fun r s₄ => K'.is (g a) r ∧ Keeps s₃ s₄) E' s₃)
theorem comp_core {α β : Type} {K : ItemKind α} {K' : ItemKind β} {elt : Expr} {x : Str} {ifs : List Expr} {scope : Scope} {Q : Value → Shared → Prop} {pz : α → Bool} {g : α → β} {as : List α} {s₁ : Shared} {o : Obj} {fp : List Addr} {n : Nat} {P : Nat → Value → Prop} {St : Nat → Heap → Prop}
    (W : Walks prog w A s₁.heap.objs.size fp [s₁.heap.objs.size] n P St) (hP : ∀ i v, P i v → ∃ a, a ∈ as ∧ K.is a v) (hA : ∀ vs : List Value, vs.length = n → (∀ j v, vs[j]? = some v → P j v) → AreOf K vs as)
    (hsz : n ≤ sizeLine) (hst : St 0 (s₁.heap.push o)) (hfp : ∀ b ∈ fp, b < (s₁.heap.push o).objs.size) (F : Fr h₀ L s₁.heap m) (N : News h₀ L s₁.heap news)
    (els : CompEls K K' prog w A h₀ L m env scope x ifs elt pz g as) (fin : CompFin K' h₀ L m news s₁ ((as.filter pz).map g) Q) :
    ∃ I fp wr n P St, Value.ref s₁.heap.objs.size = .ref I ∧ Walks prog w A I fp wr n P St ∧ n ≤ sizeLine ∧ St 0 (s₁.heap.push o) ∧ (∀ b ∈ fp, b < (s₁.heap.push o).objs.size) ∧
      QuietOn prog w A env scope x ifs elt wr P (K.lift pz) (fun v r => ∃ a, K.is a v ∧ K'.is (g a) r) { s₁ with heap := s₁.heap.push o } ∧
      (∀ D h' tk ys (vs : List Value), (s₁.heap.push o).get? D = none → h'.IsList D ys → h'.PlainList D ys → vs.length = n → (∀ j v, vs[j]? = some v → P j v) → Paired (fun v r => ∃ a, K.is a v ∧ K'.is (g a) r) (vs.filter (K.lift pz)) ys.toList →
        (∀ b o', b ∉ wr → (s₁.heap.push o).get? b = some o' → h'.get? b = some o') → Q (.ref D) { s₁ with heap := h', toks := tk }) := by
  have up : ∀ (h' : Heap), (∀ b o', b ∉ [s₁.heap.objs.size] → (s₁.heap.push o).get? b = some o' → h'.get? b = some o') → ∀ b o', s₁.heap.get? b = some o' → h'.get? b = some o' :=
    fun h' hk b o' e => hk b o' (fun hm => absurd (Heap.lt_size e) ((List.mem_singleton.mp hm) ▸ Nat.lt_irrefl _)) (Heap.get?_push_of_some _ e)
  refine ⟨s₁.heap.objs.size, fp, [s₁.heap.objs.size], n, P, St, rfl, W, hsz, hst, hfp, ⟨?_, ?_⟩, ?_⟩
  · intro C i v s₃ m₃ E' hp hn hm hk _
    obtain ⟨a, ha, hi⟩ := hP i v hp
    rw [ItemKind.lift_is hi]
    exact els.1 C a v s₃ m₃ E' ha hi hn hm (F.keeps (up _ hk))
  · intro C i v s₃ m₃ E' hp hz hn hm hk _
    obtain ⟨a, ha, hi⟩ := hP i v hp
    rw [ItemKind.lift_is hi] at hz
    exact wpAny_mono (els.2 C a v s₃ m₃ E' ha hi hz hn hm (F.keeps (up _ hk))) (fun r s₄ h₄ => ⟨⟨_, hi, h₄.1⟩, h₄.2⟩) fun _ _ e => e
  · intro D h' tk ys vs hnew hlD hplD hlen hp hF hk
    obtain ⟨nn, hpl⟩ := hplD
    have hD₀ : h₀.get? D = none := by
      cases e : h₀.get? D with
      | none => rfl
      | some o' => rw [Heap.get?_push_of_some _ (F.keep _ _ e)] at hnew; cases hnew
    have hDL : D ≠ L := by
      rintro rfl
      obtain ⟨oL, _, _, e, _⟩ := F.ns
      rw [Heap.get?_push_of_some _ e] at hnew; cases hnew
    have off : ∀ p ∈ news, @Ne Nat p.1 D := fun p hp e => by
      have z := Heap.get?_push_of_some o (N p hp).1
      have e' : p.1 = D := e
      rw [e', hnew] at z; cases z
    refine fin D ys.toList nn h' tk (F.keeps (up _ hk)) (fun p hp => ?_) off (pairedK pz g (hA vs hlen hp) _ hF)
    rcases List.mem_cons.mp hp with rfl | hp
    · exact ⟨by rw [Array.toArray_toList]; exact hpl, hDL, hD₀⟩
    · exact ⟨up _ hk _ _ (N p hp).1, (N p hp).2⟩
noncomputable def StrSrc {β : Type} (K' : ItemKind β) (prog : Program) (w : World) (A : Around) (h₀ : Heap) (L : Addr) (m : Str → Option Value) (news : List (Addr × Obj)) (env : Env) (scope : Scope) (x : Str) (ifs : List Expr) (elt : Expr) (pz : Str → Bool) (g : Str → β) (Q : Value → Shared → Prop) (xv : Value) (s₁ : Shared) : Prop :=
  ∃ y t, xv = .str y t ∧ y.length ≤ sizeLine ∧ Fr h₀ L s₁.heap m ∧ News h₀ L s₁.heap news ∧ CompEls .str K' prog w A h₀ L m env scope x ifs elt pz g (signs y) ∧ CompFin K' h₀ L m news s₁ (((signs y).filter pz).map g) Q
theorem comp_str {β : Type} {K' : ItemKind β} {elt iter : Expr} {x : Str} {px : Pos} {ifs : List Expr} {scope : Scope} {pos : Pos} {Q : Value → Shared → Prop} (pz : Str → Bool) (g : Str → β) (_F₀ : Fr h₀ L s.heap m) (_N₀ : News h₀ L s.heap news)
    (hh : A.handled = none) (hfree : ∀ y ∈ scope.names, y.2 ≠ .free) (hcell : ∀ y ∈ scope.names, y.2 ≠ .cell) (hkind : scope.kind = .function)
    (hnames : ∀ y ∈ scope.names, y.2 = .local → scope.names.lookup y.1 = some .local) (hx : scope.names.lookup x = some .local) (hs : ∀ x, foldedSetIterable iter env x = pure x)
    (h : wpAny (model prog w) A (eval iter env) (StrSrc K' prog w A h₀ L m news env scope x ifs elt pz g Q) E s) :
    wpAny (model prog w) A (eval (.ListComp elt [⟨.Name x px, iter, ifs, 0⟩] scope pos) env) Q E s := by
  refine wpAny_ListComp_walk (ItemKind.str.lift pz) (fun v r => ∃ a, ItemKind.str.is a v ∧ K'.is (g a) r) hfree hcell hkind hnames hx (wpAny_mono h (fun xv s₁ h₁ => ?_) fun _ _ e => e) hs
  obtain ⟨y, t, rfl, hsz, F, N, els, fin⟩ := h₁
  refine wpAny_pyIter_str fun o St W hst => ?_
  refine comp_core (W A hh) ?_ (fun vs hl hp => areOf_signs hl hp) hsz hst ?_ F N els fin
  · rintro i v ⟨c, u, hc, rfl⟩
    exact ⟨⟨#[c]⟩, List.mem_of_getElem? (i := i) (by simp [signs, hc]), u, rfl⟩
  · intro b hb
    rw [Heap.size_push, List.mem_singleton.mp hb]
    exact Nat.lt_succ_self _
noncomputable def LstSrc {α β : Type} (K : ItemKind α) (K' : ItemKind β) (prog : Program) (w : World) (A : Around) (h₀ : Heap) (L : Addr) (m : Str → Option Value) (env : Env) (scope : Scope) (x : Str) (ifs : List Expr) (elt : Expr) (pz : α → Bool) (g : α → β) (Q : Value → Shared → Prop) (xv : Value) (s₁ : Shared) : Prop :=
  ∃ ax vs as news, xv = .ref ax ∧ s₁.heap.IsList ax (List.toArray vs) ∧ AreOf K vs as ∧ vs.length ≤ sizeLine ∧ Fr h₀ L s₁.heap m ∧ News h₀ L s₁.heap news ∧ CompEls K K' prog w A h₀ L m env scope x ifs elt pz g as ∧ CompFin K' h₀ L m news s₁ ((as.filter pz).map g) Q
theorem comp_list {α β : Type} {K : ItemKind α} {K' : ItemKind β} {elt iter : Expr} {x : Str} {px : Pos} {ifs : List Expr} {scope : Scope} {pos : Pos} {Q : Value → Shared → Prop} (pz : α → Bool) (g : α → β) (_F₀ : Fr h₀ L s.heap m)
    (hh : A.handled = none) (hfree : ∀ y ∈ scope.names, y.2 ≠ .free) (hcell : ∀ y ∈ scope.names, y.2 ≠ .cell) (hkind : scope.kind = .function)
    (hnames : ∀ y ∈ scope.names, y.2 = .local → scope.names.lookup y.1 = some .local) (hx : scope.names.lookup x = some .local) (hs : ∀ x, foldedSetIterable iter env x = pure x)
    (h : wpAny (model prog w) A (eval iter env) (LstSrc K K' prog w A h₀ L m env scope x ifs elt pz g Q) E s) :
    wpAny (model prog w) A (eval (.ListComp elt [⟨.Name x px, iter, ifs, 0⟩] scope pos) env) Q E s := by
  refine wpAny_ListComp_walk (K.lift pz) (fun v r => ∃ a, K.is a v ∧ K'.is (g a) r) hfree hcell hkind hnames hx (wpAny_mono h (fun xv s₁ h₁ => ?_) fun _ _ e => e) hs
  obtain ⟨ax, vs, as, news, rfl, hl, ha, hsz, F, N, els, fin⟩ := h₁
  have hlt : ax < s₁.heap.objs.size := by obtain ⟨_, e, _⟩ := hl; exact Heap.lt_size e
  refine wpAny_pyIter_list hl ?_
  refine comp_core (Walks.list hh s₁.heap.objs.size ax (Nat.ne_of_lt hlt) vs.toArray) ?_ (fun us hl hp => ?_) (by simpa using hsz) ⟨⟨_, Heap.get?_push_size _ rfl, rfl, rfl⟩, hl.push _⟩ ?_ F N els fin
  · intro i v hv
    obtain ⟨a, h1, h2⟩ := ha.get i v (by simpa using hv)
    exact ⟨a, List.mem_of_getElem? h1, h2⟩
  · have e := list_of_places hl hp
    simp only [] at e
    rw [e]; exact ha
  · intro b hb
    rw [Heap.size_push]
    rcases List.mem_cons.mp hb with rfl | hb
    · exact Nat.lt_succ_self _
    · rw [List.mem_singleton.mp hb]; exact Nat.lt_succ_of_lt hlt
theorem own_ld {mm : Str → Option Value} {x : Str} {pos : Pos} {C : Addr} {scope : Scope} {v : Value} {Q : Value → Shared → Prop} (N : s.heap.Ns C mm) (hx : mm x = some v) (h : Q v s)
    (hk : (compEnvC scope [] C env).scope.kind = .function) (hl : (compEnvC scope [] C env).kindOf x = some .local) (hd : (x == ("__debug__" : Str)) = false) :
    wpAny (model prog w) A (eval (.Name x pos) (compEnvC scope [] C env)) Q E s := ldVarK N hx h hk hl hd
end
end Mine
end
section
open PySem PySem.W PyProof.Rows
example (prog : Program) (w : World) (A : Around) (E : Value → Shared → Prop) (s : Shared) (Q : Value → Shared → Prop) (h : wpAny (model prog w) A (compareOp .Eq (.int 1 0) (.int 2 0)) Q E s) : wpAny (model prog w) A (compareOp .Eq (.int 1 0) (.int 2 0)) Q E s := by
  w_top off
  k_with_none
  first
    | (walk1; fail)
    | exact h
end
section
open PySem PySem.W PyProof.Rows PySem.Spec PySem.Calls
set_option Elab.async false
set_option autoImplicit false
set_option maxRecDepth 100000
namespace Mine
noncomputable def isAsc (S : Str) : Prop := ∀ c ∈ S.cps.toList, c < 128
theorem cps_app (a b : Str) : (a ++ b).cps = a.cps ++ b.cps := rfl
theorem isAsc_app {a b : Str} (ha : isAsc a) (hb : isAsc b) : isAsc (a ++ b) := by
  intro c hc
  rw [cps_app, Array.toList_append] at hc
  rcases List.mem_append.mp hc with h | h
  · exact ha c h
  · exact hb c h
theorem isAsc_item {x : Str} (h : isAsc x) (i : Int) : isAsc (Txt.item x i) := by
  intro c hc
  simp only [Txt.item, List.mem_singleton] at hc
  subst hc
  cases q : Txt.charAt x i with
  | none => decide
  | some c =>
    unfold Txt.charAt at q
    cases r : seqIndex? i x.length with
    | none => rw [r] at q; cases q
    | some k =>
      rw [r] at q
      exact h c (List.mem_of_getElem? (i := k) (by simpa using q))
theorem isAsc_three (f ab : Int) {e : Str} (he : isAsc e) : isAsc (threeS f ab e) := by
  unfold threeS
  refine isAsc_app (isAsc_app (isAsc_item ?_ _) (isAsc_item ?_ _)) (isAsc_item he _)
  · unfold isAsc; decide
  · unfold isAsc; decide
theorem isAsc_row (f : Int) : isAsc (rowS f) := by
  unfold rowS kindS
  refine isAsc_app (isAsc_app (isAsc_app (isAsc_item ?_ _) (isAsc_three _ _ ?_)) (isAsc_three _ _ ?_)) (isAsc_three _ _ ?_)
  all_goals (unfold isAsc; decide)
theorem isAsc_line {k : Str} {v : Int} (h : isAsc k) : isAsc (lineS (k, v)) := by
  unfold lineS
  refine isAsc_app (isAsc_app (isAsc_row v) ?_) h
  unfold isAsc; decide
theorem isAsc_one {c : Nat} (h : ¬ (127 < (c : Int))) : isAsc ⟨#[c]⟩ := by
  intro x hx
  simp only [List.mem_singleton] at hx
  subst hx; omega
theorem asc_one {c : Nat} {v : Int} (h : ¬ (127 < (c : Int))) : asc (⟨#[c]⟩, v) = true := by
  simp [asc]; omega
theorem asc_not {c : Nat} {v : Int} (h : 127 < (c : Int)) : asc (⟨#[c]⟩, v) = false := by
  simp [asc]; omega
theorem byteArr_codes (S : Str) : byteArr (codes S) = enc S := by
  simp [byteArr, codes, enc]
theorem codes_in {S : Str} (h : isAsc S) : KBa.In (codes S) := by
  intro n hn
  obtain ⟨c, hc, rfl⟩ := List.mem_map.mp hn
  have := h c hc
  simp only [Int.ofNat_eq_natCast]; omega
theorem codes_length (S : Str) : (codes S).length = S.length := by simp [codes, Str.length]
theorem enc_size (S : Str) : (enc S).size = S.length := by simp [enc, Str.length]
theorem enc_app (a b : Str) : enc (a ++ b) = enc a ++ enc b := by
  simp [enc, cps_app]
noncomputable def drop11 (b : Array UInt8) : Array UInt8 := (b.toList.drop 11).toArray
theorem drop_line {p : Str × Int} (h : (rowS p.2).length = 10) : drop11 (enc (lineS p)) = enc p.1 := by
  unfold lineS
  rw [enc_app, enc_app]
  have h1 : (enc (rowS p.2)).size = 10 := by rw [enc_size]; exact h
  have h2 : (enc (Str.ofString " ")).size = 1 := by rw [enc_size]; decide
  unfold drop11
  rw [Array.toList_append, Array.toList_append]
  have h3 : ((enc (rowS p.2)).toList ++ (enc (Str.ofString " ")).toList).length = 11 := by simp [h1, h2]
  rw [List.drop_left' h3]
theorem row_length (f : Int) : (rowS f).length = 10 := by
  simp [rowS, kindS, threeS, Str.length, cps_app, Txt.item]
theorem line_size {k : Str} {v : Int} (h : k.length = 1) : (enc (lineS (k, v))).size = 12 := by
  rw [enc_size]; unfold lineS
  have h2 : (Str.ofString " ").length = 1 := by decide
  have h3 := row_length v
  simp only [Str.length, cps_app, Array.size_append] at *
  omega
section
variable {prog : Program} {w : World} {A : Around} {E : Value → Shared → Prop} {s : Shared} {h₀ : Heap} {L D : Addr} {m : PySem.Str → Option Value} {news : List (Addr × Obj)} {ys : List Value}
theorem bytes_codes {S : Str} {Q : Value → Shared → Prop} (F : Fr h₀ L s.heap m) (N : News h₀ L s.heap news) (hh : A.handled = none) (hl : s.heap.IsList D ys.toArray) (hi : AreOf .int ys (codes S)) (ha : isAsc S) (hn : S.length ≤ 16777216)
    (h : ∀ h' t' k, Fr h₀ L h' m → News h₀ L h' news → Q (.bytes (enc S) t') { s with heap := h', toks := k }) : wpAny (model prog w) A (call (.type "bytes") [.ref D]) Q E s :=
  KBa.make_K F N hh hl (intsAre_of hi) (codes_in ha) (by rw [codes_length]; exact hn) fun h' t' k F' N' _ => by
    have := h h' t' k F' N'
    rw [← byteArr_codes] at this
    exact this
theorem picked11 (b : Array UInt8) : KBy.picked b (some 11) none = drop11 b := by
  rw [KBc.picked_eq]
  unfold drop11
  simp only [Option.elim]
  have e : clipAt b.size 11 = min 11 b.size := clipAt_nat b.size 11
  rw [e]
  congr 1
  have h1 : b.size = b.toList.length := by simp
  rcases Nat.le_total 11 b.size with h | h
  · rw [Nat.min_eq_left h]
    rw [List.take_of_length_le]
    rw [List.length_drop, h1]; exact Nat.le_refl _
  · rw [Nat.min_eq_right h, Nat.sub_self, List.take_zero]
    rw [List.drop_eq_nil_of_le (by rw [← h1]; exact h)]
theorem slice11 {value slice : PySem.Expr} {b : Array UInt8} {t u : Tok} {Q : Value → Shared → Prop} (hF : Fr h₀ L s.heap m) (hz : b.size ≤ 16777216)
    (h : ∀ h' t' k, (∀ a o, s.heap.get? a = some o → h'.get? a = some o) → Q (.bytes (drop11 b) t') { s with heap := h', toks := k })
    (hs : subscripted slice false (.bytes b t) (.ref s.heap.objs.size) = operate [.ref s.heap.objs.size, .bytes b t] (getItem (.bytes b t) (.ref s.heap.objs.size)))
    (ht : ∀ r, letTemporaryGo value (.bytes b t) r = pure ()) :
    wpAny (model prog w) A (subscriptTail value slice (.bytes b t) (.ref s.heap.objs.size)) Q E { s with heap := s.heap.push { cls := .type "slice", data := .fields #[.int 11 u, .none, .none] } } :=
  tail_of_ItemOn ⟨"bytes", _, FB.slot_bytes_getitem.lookup, typeIs_bytes _ _ _, getItem_meets (typeIs_bytes _ _ _) (by decide) FB.slot_bytes_getitem FB.entry_bytes_getitem (FB.args_bytes_getitem_2 _ _) (KBc.meets_slice2 b t _ (lo := some 11) (hi := none) (.int _ _) .none)
    ⟨Heap.IsSliceOf.new _ _ _ _, Nat.le_trans (KBc.size_picked_le b _ _) (by rw [sizeLine_eq]; exact hz), fun t' k => by
      rw [picked11]
      exact h _ _ _ fun a o e => Heap.get?_push_of_some _ e⟩⟩ hs ht
end
end Mine
end
section
open PySem PySem.W PyProof.Rows
example (prog : Program) (w : World) (A : Around) (E : Value → Shared → Prop) (s : Shared) (Q : Value → Shared → Prop) (h : wpAny (model prog w) A (compareOp .Eq (.int 1 0) (.int 2 0)) Q E s) : wpAny (model prog w) A (compareOp .Eq (.int 1 0) (.int 2 0)) Q E s := by
  w_top off
  k_with_none
  first
    | (walk1; fail)
    | exact h
end
section
open PySem PySem.W PyProof.Rows PySem.Spec PySem.Calls
set_option Elab.async false
set_option autoImplicit false
set_option maxRecDepth 100000
namespace Mine
theorem filt_yes {α β : Type} {l : List α} {p : α} {i : Nat} {q : α → Bool} {f : α → β} (h : l[i]? = some p) (hq : q p = true) : ((l.take (i + 1)).filter q).map f = ((l.take i).filter q).map f ++ [f p] := by
  rw [List.take_add_one, h]; simp [List.filter_append, hq]
theorem filt_no {α β : Type} {l : List α} {p : α} {i : Nat} {q : α → Bool} {f : α → β} (h : l[i]? = some p) (hq : q p = false) : ((l.take (i + 1)).filter q).map f = ((l.take i).filter q).map f := by
  rw [List.take_add_one, h]; simp [List.filter_append, hq]
section
variable {c o : List (Str × Int)} {R1 R2 R3 R4 R5 I d L : Addr} {oI od' : Obj} {g h' : Heap} {news rest : List (Addr × Obj)} {st : List Str} {m₀ m' : Str → Option Value} {i n1 n2 n3 n4 n5 : Nat} {k : Str} {v : Int} {v1 v2 v3 v4 v5 : List Value} {s₁ : Shared} {tk : Nat} {Q : Flow → Shared → Prop}
noncomputable def Lists (R1 R2 R3 R4 R5 : Addr) (a1 a2 a3 a4 a5 : Array Value) (n1 n2 n3 n4 n5 : Nat) (rest : List (Addr × Obj)) : List (Addr × Obj) :=
  (R5, W.listOf a5 n5) :: (R4, W.listOf a4 n4) :: (R3, W.listOf a3 n3) :: (R2, W.listOf a2 n2) :: (R1, W.listOf a1 n1) :: rest
theorem jd_go {f : Flow} {nx : List (Addr × Obj)} (hf : f = .next ∨ f = .cont) (F : Fr g L h' m') (N : News g L h' ((I, oI) :: (d, od') :: nx)) (hI : ∀ p ∈ nx, p.1 ≠ I) (hJ : JD c o R1 R2 R3 R4 R5 news st m₀ (i + 1) m' nx) :
    TurnPost g L [I] [(I, oI), (d, od')] (JD c o R1 R2 R3 R4 R5 news st m₀ (i + 1)) s₁ Q f { s₁ with heap := h', toks := tk } := by
  have z : TurnEnd g L [I] [(I, oI), (d, od')] (JD c o R1 R2 R3 R4 R5 news st m₀ (i + 1)) s₁ { s₁ with heap := h', toks := tk } :=
    ⟨h', tk, m', nx, rfl, F, N, fun p hp q => hI p hp (List.mem_singleton.mp q), hJ⟩
  rcases hf with rfl | rfl
  · exact z
  · exact z
theorem adr_same {P : Addr → Prop} {a1 a2 a3 a4 a5 b1 b2 b3 b4 b5 : Array Value} {k1 k2 k3 k4 k5 l1 l2 l3 l4 l5 : Nat} (h : ∀ p ∈ Lists R1 R2 R3 R4 R5 a1 a2 a3 a4 a5 k1 k2 k3 k4 k5 rest, P p.1) : ∀ p ∈ Lists R1 R2 R3 R4 R5 b1 b2 b3 b4 b5 l1 l2 l3 l4 l5 rest, P p.1 := by
  intro p hp
  rcases mo5 hp with rfl | rfl | rfl | rfl | rfl | hp
  · exact h (R5, W.listOf a5 k5) mi0
  · exact h (R4, W.listOf a4 k4) mi1
  · exact h (R3, W.listOf a3 k3) mi2
  · exact h (R2, W.listOf a2 k2) mi3
  · exact h (R1, W.listOf a1 k1) mi4
  · exact h p (mt5 hp)
theorem end_ref {T : Addr} {t u : Tok} {nT k2 : Nat} (F : Fr g L h' m')
    (N : News g L h' ((T, pairObj k msgS t u nT) :: (I, oI) :: (d, od') :: Lists R1 R2 R3 R4 R5 v1.toArray (v2.toArray.push (.ref T)) v3.toArray v4.toArray v5.toArray n1 k2 n3 n4 n5 rest))
    (hsub : ∀ p ∈ news, p ∈ rest) (hoff : OwnOff rest [R1, R2, R3, R4, R5]) (h1 : BysAre v1 (dueRows (c.take i))) (h2 : RefsAre rest v2 (dueRef (c.take i))) (h3 : BysAre v3 (dueOnly o (c.take i))) (h4 : BysAre v4 (dueSame o (c.take i))) (h5 : BysAre v5 (dueChg o (c.take i)))
    (hne : ∀ p ∈ Lists R1 R2 R3 R4 R5 v1.toArray v2.toArray v3.toArray v4.toArray v5.toArray n1 n2 n3 n4 n5 rest, p.1 ≠ I) (hp : c[i]? = some (k, v)) (ha : asc (k, v) = false)
    (hT : T ≠ I ∧ T ≠ R1 ∧ T ≠ R2 ∧ T ≠ R3 ∧ T ≠ R4 ∧ T ≠ R5)
    (hm : ∀ z, st.contains z = false → m' z = m₀ z) :
    TurnPost g L [I] [(I, oI), (d, od')] (JD c o R1 R2 R3 R4 R5 news st m₀ (i + 1)) s₁ Q .cont { s₁ with heap := h', toks := tk } := by
  obtain ⟨t0, t1, t2, t3, t4, t5⟩ := hT
  refine jd_go (nx := Lists R1 R2 R3 R4 R5 v1.toArray (v2 ++ [Value.ref T]).toArray v3.toArray v4.toArray v5.toArray n1 k2 n3 n4 n5 ((T, pairObj k msgS t u nT) :: rest)) (.inr rfl) F ?_ ?_ ⟨⟨v1, v2 ++ [.ref T], v3, v4, v5, n1, k2, n3, n4, n5, (T, pairObj k msgS t u nT) :: rest, rfl, ?_, ?_, ?_, ?_, ?_, ?_, ?_, hm⟩⟩
  · intro p hp'
    refine N p ?_
    rw [List.push_toArray]
    rcases mo2 hp' with rfl | rfl | hp'
    · exact mi1
    · exact mi2
    rcases mo6 hp' with rfl | rfl | rfl | rfl | rfl | rfl | hp'
    · exact mt3 mi0
    · exact mt3 mi1
    · exact mt3 mi2
    · exact mt3 mi3
    · exact mt3 mi4
    · exact .head _
    · exact mt3 (mt5 hp')
  · intro p hp'
    rcases mo6 hp' with rfl | rfl | rfl | rfl | rfl | rfl | hp'
    · exact hne _ mi0
    · exact hne _ mi1
    · exact hne _ mi2
    · exact hne (R2, W.listOf v2.toArray n2) mi3
    · exact hne _ mi4
    · exact t0
    · exact hne p (mt5 hp')
  · intro p hp'; exact .tail _ (hsub p hp')
  · intro p hp' b hb
    rcases List.mem_cons.mp hp' with rfl | hp'
    · rcases mc5 hb with rfl | rfl | rfl | rfl | rfl
      · exact t1
      · exact t2
      · exact t3
      · exact t4
      · exact t5
    · exact hoff p hp' b hb
  · rw [dueRows, filt_no hp ha]; exact h1
  · rw [dueRef, filt_yes hp (by rw [ha]; rfl)]
    exact (h2.mono fun p hp => .tail _ hp).snoc (.head _)
  · rw [dueOnly, filt_no hp (by rw [ha]; rfl)]; exact h3
  · rw [dueSame, filt_no hp (by rw [ha]; rfl)]; exact h4
  · rw [dueChg, filt_no hp (by rw [ha]; rfl)]; exact h5
theorem end_only {t u : Tok} {k1 k3 : Nat} (F : Fr g L h' m')
    (N : News g L h' ((I, oI) :: (d, od') :: Lists R1 R2 R3 R4 R5 (v1.toArray.push (.bytes (enc (lineS (k, v))) t)) v2.toArray (v3.toArray.push (.bytes (enc k) u)) v4.toArray v5.toArray k1 n2 k3 n4 n5 rest))
    (hsub : ∀ p ∈ news, p ∈ rest) (hoff : OwnOff rest [R1, R2, R3, R4, R5]) (h1 : BysAre v1 (dueRows (c.take i))) (h2 : RefsAre rest v2 (dueRef (c.take i))) (h3 : BysAre v3 (dueOnly o (c.take i))) (h4 : BysAre v4 (dueSame o (c.take i))) (h5 : BysAre v5 (dueChg o (c.take i)))
    (hne : ∀ p ∈ Lists R1 R2 R3 R4 R5 v1.toArray v2.toArray v3.toArray v4.toArray v5.toArray n1 n2 n3 n4 n5 rest, p.1 ≠ I) (hp : c[i]? = some (k, v)) (ha : asc (k, v) = true) (hh : kdpHas o k = false)
    (hm : ∀ z, st.contains z = false → m' z = m₀ z) :
    TurnPost g L [I] [(I, oI), (d, od')] (JD c o R1 R2 R3 R4 R5 news st m₀ (i + 1)) s₁ Q .next { s₁ with heap := h', toks := tk } := by
  refine jd_go (.inl rfl) F N (adr_same (P := fun a => a ≠ I) hne) ⟨⟨v1 ++ [.bytes (enc (lineS (k, v))) t], v2, v3 ++ [.bytes (enc k) u], v4, v5, _, _, _, _, _, rest, by rw [← List.push_toArray, ← List.push_toArray]; rfl, hsub, hoff, ?_, ?_, ?_, ?_, ?_, hm⟩⟩
  · rw [dueRows, filt_yes hp ha]; exact h1.snoc _ _
  · rw [dueRef, filt_no hp (by rw [ha]; rfl)]; exact h2
  · rw [dueOnly, filt_yes hp (by rw [ha, hh]; rfl)]; exact h3.snoc _ _
  · rw [dueSame, filt_no hp (by rw [ha, hh]; rfl)]; exact h4
  · rw [dueChg, filt_no hp (by rw [ha, hh]; rfl)]; exact h5
theorem end_same {t : Tok} {k1 k4 : Nat} (F : Fr g L h' m')
    (N : News g L h' ((I, oI) :: (d, od') :: Lists R1 R2 R3 R4 R5 (v1.toArray.push (.bytes (enc (lineS (k, v))) t)) v2.toArray v3.toArray (v4.toArray.push (.bytes (enc (lineS (k, v))) t)) v5.toArray k1 n2 n3 k4 n5 rest))
    (hsub : ∀ p ∈ news, p ∈ rest) (hoff : OwnOff rest [R1, R2, R3, R4, R5]) (h1 : BysAre v1 (dueRows (c.take i))) (h2 : RefsAre rest v2 (dueRef (c.take i))) (h3 : BysAre v3 (dueOnly o (c.take i))) (h4 : BysAre v4 (dueSame o (c.take i))) (h5 : BysAre v5 (dueChg o (c.take i)))
    (hne : ∀ p ∈ Lists R1 R2 R3 R4 R5 v1.toArray v2.toArray v3.toArray v4.toArray v5.toArray n1 n2 n3 n4 n5 rest, p.1 ≠ I) (hp : c[i]? = some (k, v)) (ha : asc (k, v) = true) (hh : kdpHas o k = true) (hs : sameB v (kdpLook o k 0) = true)
    (hm : ∀ z, st.contains z = false → m' z = m₀ z) :
    TurnPost g L [I] [(I, oI), (d, od')] (JD c o R1 R2 R3 R4 R5 news st m₀ (i + 1)) s₁ Q .next { s₁ with heap := h', toks := tk } := by
  refine jd_go (.inl rfl) F N (adr_same (P := fun a => a ≠ I) hne) ⟨⟨v1 ++ [.bytes (enc (lineS (k, v))) t], v2, v3, v4 ++ [.bytes (enc (lineS (k, v))) t], v5, _, _, _, _, _, rest, by rw [← List.push_toArray, ← List.push_toArray]; rfl, hsub, hoff, ?_, ?_, ?_, ?_, ?_, hm⟩⟩
  · rw [dueRows, filt_yes hp ha]; exact h1.snoc _ _
  · rw [dueRef, filt_no hp (by rw [ha]; rfl)]; exact h2
  · rw [dueOnly, filt_no hp (by rw [ha, hh]; rfl)]; exact h3
  · rw [dueSame, filt_yes hp (by rw [ha, hh, hs]; rfl)]; exact h4.snoc _ _
  · rw [dueChg, filt_no hp (by rw [ha, hh, hs]; rfl)]; exact h5
theorem end_chg {t u : Tok} {k1 k5 : Nat} (F : Fr g L h' m')
    (N : News g L h' ((I, oI) :: (d, od') :: Lists R1 R2 R3 R4 R5 (v1.toArray.push (.bytes (enc (lineS (k, v))) t)) v2.toArray v3.toArray v4.toArray (v5.toArray.push (.bytes (enc k) u)) k1 n2 n3 n4 k5 rest))
    (hsub : ∀ p ∈ news, p ∈ rest) (hoff : OwnOff rest [R1, R2, R3, R4, R5]) (h1 : BysAre v1 (dueRows (c.take i))) (h2 : RefsAre rest v2 (dueRef (c.take i))) (h3 : BysAre v3 (dueOnly o (c.take i))) (h4 : BysAre v4 (dueSame o (c.take i))) (h5 : BysAre v5 (dueChg o (c.take i)))
    (hne : ∀ p ∈ Lists R1 R2 R3 R4 R5 v1.toArray v2.toArray v3.toArray v4.toArray v5.toArray n1 n2 n3 n4 n5 rest, p.1 ≠ I) (hp : c[i]? = some (k, v)) (ha : asc (k, v) = true) (hh : kdpHas o k = true) (hs : sameB v (kdpLook o k 0) = false)
    (hm : ∀ z, st.contains z = false → m' z = m₀ z) :
    TurnPost g L [I] [(I, oI), (d, od')] (JD c o R1 R2 R3 R4 R5 news st m₀ (i + 1)) s₁ Q .next { s₁ with heap := h', toks := tk } := by
  refine jd_go (.inl rfl) F N (adr_same (P := fun a => a ≠ I) hne) ⟨⟨v1 ++ [.bytes (enc (lineS (k, v))) t], v2, v3, v4, v5 ++ [.bytes (enc k) u], _, _, _, _, _, rest, by rw [← List.push_toArray, ← List.push_toArray]; rfl, hsub, hoff, ?_, ?_, ?_, ?_, ?_, hm⟩⟩
  · rw [dueRows, filt_yes hp ha]; exact h1.snoc _ _
  · rw [dueRef, filt_no hp (by rw [ha]; rfl)]; exact h2
  · rw [dueOnly, filt_no hp (by rw [ha, hh]; rfl)]; exact h3
  · rw [dueSame, filt_no hp (by rw [ha, hh, hs]; rfl)]; exact h4
  · rw [dueChg, filt_yes hp (by rw [ha, hh, hs]; rfl)]; exact h5.snoc _ _
end
theorem line_eq (k : Str) (v : Int) : rowS v ++ Str.ofString " " ++ k = lineS (k, v) := rfl
theorem news_cons {h₀ h : Heap} {L : Addr} {x : Addr × Obj} {r : List (Addr × Obj)} (hx : x ∈ r) (N : News h₀ L h r) : News h₀ L h (x :: r) := fun p hp => (List.mem_cons.mp hp).elim (fun e => e ▸ N x hx) (N p)
theorem len_line {S : Str} {f : Int} {c : Nat} (e : S = rowS f) : (S ++ Str.ofString " " ++ ⟨#[c]⟩).length ≤ 16777216 := by
  subst e
  have h := line_size (k := ⟨#[c]⟩) (v := f) rfl
  rw [enc_size] at h
  unfold lineS at h
  exact Nat.le_trans (Nat.le_of_eq h) (by decide)
theorem line_fit (c : Nat) (v : Int) : (enc (lineS (⟨#[c]⟩, v))).size ≤ 16777216 := by rw [line_size rfl]; decide
theorem sb_eq {a b v : Int} {S1 S2 : Str} (hL : a = v) (e1 : S1 = kindS a) (e2 : S2 = kindS b) {r : Bool} (h1 : Int.fmod (a - b) 4096 = 0) (h : (S1 == S2) = r) : sameB v b = r := by
  subst hL e1 e2
  unfold sameB
  rw [← h, decide_eq_true h1, Bool.true_and]
  by_cases e : kindS a = kindS b
  · rw [e]; simp
  · rw [decide_eq_false e]; exact (beq_eq_false_iff_ne.mpr e).symm
theorem sb_no {a b v : Int} (hL : a = v) (h1 : Int.fmod (a - b) 4096 ≠ 0) : sameB v b = false := by
  subst hL
  unfold sameB
  rw [decide_eq_false h1, Bool.false_and]
theorem tne {T I R1 R2 R3 R4 R5 d d2 : Addr} {r : List (Addr × Obj)} (h : d2 < T ∧ I < T ∧ d < T ∧ R5 < T ∧ R4 < T ∧ R3 < T ∧ R2 < T ∧ R1 < T ∧ AllLt T r) : T ≠ I ∧ T ≠ R1 ∧ T ≠ R2 ∧ T ≠ R3 ∧ T ≠ R4 ∧ T ≠ R5 := by
  obtain ⟨_, a, _, b5, b4, b3, b2, b1, _⟩ := h
  exact ⟨Nat.ne_of_gt a, Nat.ne_of_gt b1, Nat.ne_of_gt b2, Nat.ne_of_gt b3, Nat.ne_of_gt b4, Nat.ne_of_gt b5⟩
theorem news_skip2 {h₀ h : Heap} {L : Addr} {p q : Addr × Obj} {r : List (Addr × Obj)} (N : News h₀ L h (p :: q :: r)) : News h₀ L h (p :: r) := fun x hx => N x ((List.mem_cons.mp hx).elim (fun e => e ▸ .head _) fun e => .tail _ (.tail _ e))
theorem sign_one {S a : Str} (h : a ∈ signs S) : ∃ c : Nat, a = ⟨#[c]⟩ := by
  simp only [signs, List.mem_map] at h
  obtain ⟨c, _, rfl⟩ := h
  exact ⟨c, rfl⟩
theorem toCodes {S : Str} {ys : List Value} (h : AreOf .int ys (((signs S).filter fun _ => true).map fun a => ((a.cps.getD 0 0 : Nat) : Int))) : AreOf .int ys (codes S) := by
  rw [List.filter_eq_self.mpr (fun _ _ => rfl), map_codes] at h
  exact h
theorem asc_line_of {S k : Str} {f : Int} (e : S = rowS f) (h : isAsc k) : isAsc (S ++ Str.ofString " " ++ k) := by
  subst e
  exact isAsc_line (v := f) h
section
variable {prog : Program} {w : World} {A : Around} {E : Value → Shared → Prop} {s : Shared} {h₀ : Heap} {L C : Addr} {m m₂ mg mb : Str → Option Value} {scope : Scope} {env : Env} {p : Program} {loose : List Str} {mean : ExcName → Option Value} {x : Str} {pos : Pos} {v : Value} {K : Frag} {Q : Value → Shared → Prop}
theorem cm_own (N : s.heap.Ns C m₂) (hx : m₂ x = some v) (h : Q v s)
    (hk : (compEnv scope C env).scope.kind = .function) (hl : (compEnv scope C env).kindOf x = some .local) (hd : (x == ("__debug__" : Str)) = false) :
    wpAny (model prog w) A (eval (.Name x pos) (compEnv scope C env)) Q E s := wpAny_Name (wpAny_loadName_local hk hl (show s.heap.Ns (compEnv scope C env).locals m₂ from N) hx h) hd
theorem cm_built (F : Fr h₀ L s.heap m) (X : K.In h₀) (T : Top p loose mean mg mb h₀) (e : nsIn K mainGlobals x = some none) (hv : bootBuiltins x = some v) (hn : x ≠ "__name__") (h : Q v s) (hg : env.globals = mainGlobals) (hb : env.builtins = builtinsNs)
    (hk : (compEnv scope C env).scope.kind = .function) (hx : (compEnv scope C env).kindOf x = some .globalImplicit) (hd : (x == ("__debug__" : Str)) = false) :
    wpAny (model prog w) A (eval (.Name x pos) (compEnv scope C env)) Q E s :=
  Name_function_global hk hx (loadGlobal_builtin (env := compEnv scope C env) (show s.heap.Ns env.globals mg from hg ▸ (T.keeps F.keep).g) (mg_none_of X T.g e) (show s.heap.Ns env.builtins mb from hb ▸ (T.keeps F.keep).b) ((T.builtins x hn).trans hv) h) hd
end
end Mine
end
section
open PySem PySem.W PyProof.Rows
example (prog : Program) (w : World) (A : Around) (E : Value → Shared → Prop) (s : Shared) (Q : Value → Shared → Prop) (h : wpAny (model prog w) A (compareOp .Eq (.int 1 0) (.int 2 0)) Q E s) : wpAny (model prog w) A (compareOp .Eq (.int 1 0) (.int 2 0)) Q E s := by
  w_top off
  k_with_none
  first
    | (walk1; fail)
    | exact h
end
section
open PySem PySem.W PyProof.Rows PySem.Spec PySem.Calls
set_option Elab.async false
set_option autoImplicit false
set_option maxRecDepth 100000
set_option maxHeartbeats 8000000
set_option pp.deepTerms false
set_option pp.deepTerms.threshold 8
set_option pp.fieldNotation false
namespace Mine
example : (PySem.Challenge.rw_il0160_01 = PySem.Challenge.rw_il0160_01 ∧ hd.heap_39 = hd.heap_39) := by k_fill; exact ⟨rfl, rfl⟩
theorem small_map {α β : Type} {vs : List Value} {l : List α} {p : α → Bool} {f : α → β} {i : Nat} (h : vs.length = ((l.take i).filter p |>.map f).length) (hi : i < 10) : vs.toArray.size ≤ sizeLine := by
  have h1 := List.length_filter_le p (l.take i)
  rw [List.length_map] at h
  rw [List.length_take] at h1
  rw [List.size_toArray, sizeLine_eq]; omega
theorem lt_nat {a b : Addr} (h : a < b) : @LT.lt Nat _ a b := h
theorem due_call {w : World} {loose : List Str} {mean : ExcName → Option Value} {mg mb : Str → Option Value} {news : List (Addr × Obj)}
    {dp un : Nat} {gd : Option (List Code)} {cn : Str} {cs : Scope} {a₁ : Addr} {ccd : Value} {cl : List (Str × Addr)} {outer : List Env} {A₀ : Around} {base h₀ : Heap} {L : Addr} {m : Str → Option Value} {s : Shared} {Q E : Value → Shared → Prop} {d d2 : Addr} {od od2 : Obj} {kv kv2 : List (Str × Value)} {c c2 : List (Str × Int)}
    (B : Below A₀ base outer h₀) (F : Fr h₀ L s.heap m) (X : (hd.heap_39 w.params).In h₀) (N : News h₀ L s.heap news) (T : Top hd.view_39 loose mean mg mb h₀) (hk : cs.kind = .function) (hdp : dp + 3 < recursionLimit)
    (D1 : DF (RowW.prog (OpenRow.toRowW (OpenLaw.row PySem.Challenge.rw_il0160_01))) w news d od kv c) (D2 : DF (RowW.prog (OpenRow.toRowW (OpenLaw.row PySem.Challenge.rw_il0160_01))) w news d2 od2 kv2 c2)
    (hret : ∀ (D R1 R2 R3 R4 R5 : Addr) (v1 v2 v3 v4 v5 : List Value) (n1 n2 n3 n4 n5 : Nat) (rest : List (Addr × Obj)) (h' : Heap) (tk' : Nat), Fr h₀ L h' m →
      News h₀ L h' ((D, { cls := .type "tuple", data := .seq #[.ref R1, .ref R2, .ref R3, .ref R4, .ref R5] }) :: Lists R1 R2 R3 R4 R5 v1.toArray v2.toArray v3.toArray v4.toArray v5.toArray n1 n2 n3 n4 n5 rest) → (∀ p ∈ news, p ∈ rest) →
      BysAre v1 (dueRows c) → RefsAre rest v2 (dueRef c) → BysAre v3 (dueOnly c2 c) → BysAre v4 (dueSame c2 c) → BysAre v5 (dueChg c2 c) → Q (.ref D) { s with heap := h', toks := tk' }) :
    wpAny (model (RowW.prog (OpenRow.toRowW (OpenLaw.row PySem.Challenge.rw_il0160_01))) w) (ktrTop dp un gd cn cs L a₁ ccd cl outer) (call (.ref 158) [.ref d, .ref d2]) Q E s := by
  k_with_none
  k_with "eval ListComp" => (k_here; (refine' comp_str (K' := .int) (fun _ => true) (fun a => ((a.cps.getD 0 0 : Nat) : Int)) ?F ?N (by with_unfolding_all rfl) (by decide) (by decide) (by with_unfolding_all rfl) (by decide) (by with_unfolding_all rfl) (by intro _; with_unfolding_all rfl) ?_); (case F => k_asm); (case N => k_asm); k_whole)
  k_with "eval Name" => (k_here; (with_reducible show wpAny _ _ (eval (Expr.Name _ _) (compEnv _ _ _)) _ _ _); k_dflt (first
  | refine cm_own (by assumption) (by assumption) ?_ (by rfl) (by rfl) (by decide)
  | refine cm_built (by assumption) (by k_asm) (by k_asm) (by k_is) (by boot_by_name) (by decide) ?_ (by rfl) (by rfl) (by rfl) (by rfl) (by decide)))
  k_with "call type:bytes" => (k_here; (with_reducible show wpAny _ _ (call (Value.type "bytes") [Value.ref _]) _ _ _); k_dflt (refine' bytes_codes ?F ?N ?hh ?hl ?hi ?ha ?hn ?_; (case F => k_asm); (case N => k_asm); (case hh => rfl); (case hl => is_list); (case hi => assumption); (case ha => exact asc_line_of (by assumption) (isAsc_one (by assumption))); (case hn => exact len_line (by assumption))); intro h8 t8 k8 F8 N8; (rename _ = rowS _ => eS8); (rename kdpLook _ _ _ = _ => eL8); (rw [eS8, eL8, line_eq]); (try dsimp only); (try k_fold))
  k_with "subscriptTail" => (k_here; (with_reducible show wpAny _ _ (subscriptTail _ (Expr.Slice _ _ none _) (Value.bytes _ _) (Value.ref _)) _ _ _); (rename Fr _ _ _ _ => F'); (rename News _ _ _ _ => N'); (refine slice11 (s := ⟨_, _, _, _, _⟩) F' (line_fit _ _) ?_ (by with_unfolding_all rfl) (by intro _; with_unfolding_all rfl)); intro h7 t7 k7 hk7; (rw [drop_line (row_length _)]); (have F7 := F'.keptAll hk7); (have N7 := N'.grown hk7); (try dsimp only); (try k_fold))
  k_with "call ref" => (k_here; k_dflt (refine' row_call ?B ?F ?X ?N ?T ?K ?dp ?_; (case B => k_asm); (case F => k_asm); (case X => k_asm); (case N => k_asm); (case T => k_asm); (case K => first | exact rfl | assumption); (case dp => ktr_room)); intro t9 h9 tk9 S9 eS9 lS9 F9 N9; (try dsimp only); (try k_fold))
  k_with "call ref" => (k_here; k_dflt (refine' kind_call ?B ?F ?X ?N ?T ?K ?dp ?_; (case B => k_asm); (case F => k_asm); (case X => k_asm); (case N => k_asm); (case T => k_asm); (case K => first | exact rfl | assumption); (case dp => ktr_room)); intro t9 h9 tk9 S9 eS9 lS9 F9 N9; (try dsimp only); (try k_fold))
  k_with "exec For Name Name cons nil" => (k_here; (rename Fr _ _ _ _ => lF'); (with_unfolding_all refine' for_loopF lF' ?_ (by intro _; rfl) (by passes_own)); k_whole)
  refine wpAny_call ?_
  cell_enter
  have kMk := kstMark
  have lo2 := D2.lo
  have hD2 := D2.dict
  have hF2 := D2.flat
  have hM2 := D2.mem
  k_steps
  rename Fr _ _ _ _ => F0
  rename News _ _ _ _ => N0
  refine loopE_dict (JD c c2 _ _ _ _ _ news [Str.ofString "name", Str.ofString "row", Str.ofString "sign"] _) rfl D1.lo D1.dict D1.flat F0 (news_tail N0) (mem_skip5 D1.mem)
    ⟨[], [], [], [], [], 0, 0, 0, 0, 0, news, rfl, fun _ h9 => h9, ownOff_of (by assumption) (by first | assumption | exact And.right (by assumption) | exact And.right (And.right (by assumption)) | exact And.right (And.right (And.right (by assumption))) | exact And.right (And.right (And.right (And.right (by assumption))))) (by first | assumption | exact And.right (by assumption) | exact And.right (And.right (by assumption)) | exact And.right (And.right (And.right (by assumption))) | exact And.right (And.right (And.right (And.right (by assumption))))) (by first | assumption | exact And.right (by assumption) | exact And.right (And.right (by assumption)) | exact And.right (And.right (And.right (by assumption))) | exact And.right (And.right (And.right (And.right (by assumption))))) (by first | assumption | exact And.right (by assumption) | exact And.right (And.right (by assumption)) | exact And.right (And.right (And.right (by assumption))) | exact And.right (And.right (And.right (And.right (by assumption))))), .nil, .nil, .nil, .nil, .nil, fun _ _ => rfl⟩ ?_ ?_
  · rintro i ⟨k, v⟩ t m₁ nx h tk I oI od' hp hd' ⟨⟨v1, v2, v3, v4, v5, n1, n2, n3, n4, n5, rest, rfl, hsub, hoff, h1, h2, h3, h4, h5, hm⟩⟩ hne hlt F1 N1
    replace F1 := fr_stored _ hm F1
    clear F0 N0
    have hi10 : i < 10 := Nat.lt_of_lt_of_le (List.getElem?_eq_some_iff.mp hp).1 D1.short
    obtain ⟨ch, rfl, hch⟩ := D1.names _ (List.mem_of_getElem? hp)
    have e1 := lt_nat (hlt _ (.head _)); have e2 := lt_nat (hlt _ (.tail _ (.head _))); have e3 := lt_nat (hlt _ (.tail _ (.tail _ (.head _)))); have e4 := lt_nat (hlt _ (.tail _ (.tail _ (.tail _ (.head _))))); have e5 := lt_nat (hlt _ (.tail _ (.tail _ (.tail _ (.tail _ (.head _))))))
    have hdr := hoff _ (hsub _ D1.mem)
    have f1 := ne_nat (hdr _ (.head _)); have f2 := ne_nat (hdr _ (.tail _ (.head _))); have f3 := ne_nat (hdr _ (.tail _ (.tail _ (.head _)))); have f4 := ne_nat (hdr _ (.tail _ (.tail _ (.tail _ (.head _))))); have f5 := ne_nat (hdr _ (.tail _ (.tail _ (.tail _ (.tail _ (.head _))))))
    have hdr2 := hoff _ (hsub _ D2.mem)
    have j1 := ne_nat (hdr2 _ (.head _)); have j2 := ne_nat (hdr2 _ (.tail _ (.head _))); have j3 := ne_nat (hdr2 _ (.tail _ (.tail _ (.head _)))); have j4 := ne_nat (hdr2 _ (.tail _ (.tail _ (.tail _ (.head _))))); have j5 := ne_nat (hdr2 _ (.tail _ (.tail _ (.tail _ (.tail _ (.head _))))))
    dsimp only at e1 e2 e3 e4 e5 f1 f2 f3 f4 f5 j1 j2 j3 j4 j5
    replace N1 := news_cons (.tail _ (.tail _ (mem_skip5 (hsub _ D2.mem)))) N1
    have hlo := D1.lo
    have hfl := D1.flat
    have z1 := small_map h1.length hi10; have z2 := small_map h2.length hi10; have z3 := small_map h3.length hi10; have z4 := small_map h4.length hi10; have z5 := small_map h5.length hi10
    have hHas := has_at hp
    have hLook := look_at D1.nod hp
    dsimp only at F1 N1 ⊢
    k_steps
    · exact end_ref (by assumption) (news_skip2 (by assumption)) hsub hoff h1 h2 h3 h4 h5 hne hp (asc_not (by assumption)) (tne (by assumption)) (by intro z hz; simp only [List.contains_cons, List.contains_nil, Bool.or_false, Bool.or_eq_false_iff, beq_eq_false_iff_ne, ne_eq] at hz; simp [hz])
    · (refine' ⟨_, _, rfl, ?z, by k_asm, by k_asm, ⟨?tests, ?elt⟩, ?_⟩)
      (case z => rw [sizeLine_eq]; exact len_line (by assumption))
      (case tests => exact fun C9 a9 v9 s9 m9 E9 ha9 hi9 hn9 hm9 hF9 => wpAny_tests_nil ⟨rfl, s9.heap, s9.toks, rfl, fun _ _ e9 => e9⟩)
      (case elt => intro C9 a9 v9 s9 m9 E9 ha9 hi9 _ hn9 hm9 hF9; obtain ⟨u9, rfl⟩ := hi9; obtain ⟨c9, rfl⟩ := sign_one ha9; clear ha9; k_steps; all_goals (first | exact ⟨_, rfl⟩ | exact ⟨_, _, rfl, fun _ _ e9 => e9⟩))
      intro D9 ys9 n9 h9' tk9' F9' N9' off9 ha9
      replace ha9 := toCodes ha9; (try dsimp only at N9'); (try dsimp only); (try k_fold)
      simp only [List.forall_mem_cons] at off9
      obtain ⟨o0, o1, o2, o3, o4, o5, o6, o7, o8⟩ := off9
      have pf0 : True := trivial
      k_steps
      · exact end_same (by assumption) (news_tail (news_tail (by assumption))) hsub hoff h1 h2 h3 h4 h5 hne hp (asc_one (by assumption)) (by assumption) (sb_eq (look_at D1.nod hp) (by assumption) (by assumption) (by assumption) (by assumption)) (by intro z hz; simp only [List.contains_cons, List.contains_nil, Bool.or_false, Bool.or_eq_false_iff, beq_eq_false_iff_ne, ne_eq] at hz; simp [hz])
      · exact end_chg (by assumption) (news_tail (news_tail (by assumption))) hsub hoff h1 h2 h3 h4 h5 hne hp (asc_one (by assumption)) (by assumption) (sb_eq (look_at D1.nod hp) (by assumption) (by assumption) (by assumption) (by assumption)) (by intro z hz; simp only [List.contains_cons, List.contains_nil, Bool.or_false, Bool.or_eq_false_iff, beq_eq_false_iff_ne, ne_eq] at hz; simp [hz])
      · exact end_chg (by assumption) (news_tail (news_tail (by assumption))) hsub hoff h1 h2 h3 h4 h5 hne hp (asc_one (by assumption)) (by assumption) (sb_no (look_at D1.nod hp) (by assumption)) (by intro z hz; simp only [List.contains_cons, List.contains_nil, Bool.or_false, Bool.or_eq_false_iff, beq_eq_false_iff_ne, ne_eq] at hz; simp [hz])
      · exact end_only (by assumption) (news_tail (news_tail (by assumption))) hsub hoff h1 h2 h3 h4 h5 hne hp (asc_one (by assumption)) (by assumption) (by intro z hz; simp only [List.contains_cons, List.contains_nil, Bool.or_false, Bool.or_eq_false_iff, beq_eq_false_iff_ne, ne_eq] at hz; simp [hz])
  · rintro h tk m₁ nx F1 N1 ⟨⟨v1, v2, v3, v4, v5, n1, n2, n3, n4, n5, rest, rfl, hsub, hoff, h1, h2, h3, h4, h5, hm⟩⟩
    rw [List.take_length] at h1 h2 h3 h4 h5
    replace F1 := fr_stored _ hm F1
    clear F0 N0
    k_steps
    exact hret _ _ _ _ _ _ _ _ _ _ _ _ _ _ _ _ _ _ _ (by assumption) (by assumption) hsub h1 h2 h3 h4 h5
end Mine
end
section
open PySem PySem.W PyProof.Rows
example (prog : Program) (w : World) (A : Around) (E : Value → Shared → Prop) (s : Shared) (Q : Value → Shared → Prop) (h : wpAny (model prog w) A (compareOp .Eq (.int 1 0) (.int 2 0)) Q E s) : wpAny (model prog w) A (compareOp .Eq (.int 1 0) (.int 2 0)) Q E s := by
  w_top off
  k_with_none
  first
    | (walk1; fail)
    | exact h
end
section
open PySem
open Sem (wp)
set_option Elab.async false
set_option autoImplicit false
set_option maxRecDepth 100000
set_option maxHeartbeats 4000000
set_option pp.deepTerms false
set_option pp.deepTerms.threshold 8
namespace Mine
theorem uxNew : ExcNewFacts "UnicodeEncodeError" "UnicodeEncodeError.__new__" where
  ends := by decide +kernel
  owner := by decide +kernel
  entry := entryFor_alias (id' := "BaseException.__new__") (by rw [fastTable_eq_tree]; kernel_rfl) (by first | rfl | decide +kernel) (by decide +kernel) (by rw [fastTable_eq_tree]; kernel_rfl)
  sub := by rw [isSubtype_type]; kernel_rfl
  notAttr := by rw [isSubtype_type]; kernel_rfl
  notName := by rw [isSubtype_type]; kernel_rfl
  made := by kernel_rfl
theorem ux_notType : (Value.type "UnicodeEncodeError" == Value.type "type") = false := by decide +kernel
theorem ux_canMake : ((Manifest.find? "UnicodeEncodeError").bind fun x => List.findSome? (fun t => (Manifest.find? t).bind fun b =>
    if b.noNew = true then some true else if (b.attrs.any fun x => x.fst == "__new__") = true then some false else none) x.mro).getD false = false := by kernel_rfl
theorem ux_noVector (args : Args) : checkTypeCall "UnicodeEncodeError" args = pure () := by kernel_rfl
theorem ux_mro : ∃ m, mroOf (.type "UnicodeEncodeError") = pure m ∧ m.isEmpty = false := ⟨[.type "UnicodeEncodeError", .type "UnicodeError", .type "ValueError", .type "Exception", .type "BaseException", .type "object"], by rw [mroOf_type]; kernel_rfl, rfl⟩
theorem ux_madeBy : Bind.madeBy (.type "UnicodeEncodeError") = pure (some "UnicodeEncodeError.__new__") := by kernel_rfl
theorem ux_newOk (rest : List Value) : checkBuiltinCall "UnicodeEncodeError.__new__" ⟨.type "UnicodeEncodeError" :: rest, []⟩ = pure () := by kernel_rfl
theorem ux_init : Slot "UnicodeEncodeError" "__init__" "UnicodeEncodeError.__init__" :=
  .of (owner := "UnicodeEncodeError") (n := "__init__") (by rw [typeLookup_type, builtinLookup_eq_fast]; kernel_rfl) (by decide +kernel) (by decide +kernel) (by decide +kernel)
    (by first | exact .inl (by decide +kernel) | exact .inr (by decide +kernel)) (by rw [isSubtype_type]; kernel_rfl)
theorem ux_initEntry : entryFor table "UnicodeEncodeError.__init__" = some Builtin.«UnicodeEncodeError.__init__» := entryFor_of_tree (by kernel_rfl)
theorem ux_initSplit : splitId "UnicodeEncodeError.__init__" = some ("UnicodeEncodeError", "__init__") := by kernel_rfl
theorem ux_initKind : builtinKind "UnicodeEncodeError.__init__" = some .slot := by kernel_rfl
theorem ux_sub : isSubtype (.type "UnicodeEncodeError") (.type "UnicodeEncodeError") = pure true := by rw [isSubtype_type]; kernel_rfl
theorem ux_args (a b c d e f : Value) : argsOk "UnicodeEncodeError.__init__" ⟨[a, b, c, d, e, f], []⟩ := by unfold argsOk; kernel_rfl
structure MadeUx (h h' : Heap) (e : Addr) : Prop where
  keeps : ∀ b o, h.get? b = some o → h'.get? b = some o
  new : h.get? e = none
  there : ∃ t vs, h'.get? e = some { cls := .type "UnicodeEncodeError", data := .fields vs } ∧ vs[0]? = some (.ref t) ∧ vs[1]? = some .none ∧ vs[2]? = some .none
end Mine
end
section
open PySem PySem.W PyProof.Rows
example (prog : Program) (w : World) (A : Around) (E : Value → Shared → Prop) (s : Shared) (Q : Value → Shared → Prop) (h : wpAny (model prog w) A (compareOp .Eq (.int 1 0) (.int 2 0)) Q E s) : wpAny (model prog w) A (compareOp .Eq (.int 1 0) (.int 2 0)) Q E s := by
  w_top off
  k_with_none
  first
    | (walk1; fail)
    | exact h
end
section
open PySem
open Sem (wp)
set_option Elab.async false
set_option autoImplicit false
set_option maxRecDepth 100000
set_option maxHeartbeats 1000000
namespace Mine
open Builtin.UnicodeEncodeError (members setMembers Members unset)
noncomputable def uxObj (v0 : Value) (ms : Array Value) : Obj := { cls := .type "UnicodeEncodeError", data := .fields (#[v0, .none, .none, .none, .bool false, .none] ++ ms) }
noncomputable def mArr (m : Members) : Array Value := #[m.encoding, m.object, rawInt m.start, rawInt m.stop, m.reason]
section
variable {prog : Program} {w : World} {A : Around} {E : Value → Shared → Prop} {s : Shared} {e : Addr} {v0 : Value} {ms : Array Value}
theorem members_0 {Q : Members → Shared → Prop} (he : s.heap.get? e = some (uxObj v0 #[])) (h : Q {} s) : wpAny (model prog w) A (members (.ref e)) Q E s := by
  unfold members
  refine wpAny_bind (wpAny_fieldsOf he rfl ?_)
  exact wpAny_pure h
theorem members_m {m : Members} {Q : Members → Shared → Prop} (he : s.heap.get? e = some (uxObj v0 (mArr m))) (h : Q m s) : wpAny (model prog w) A (members (.ref e)) Q E s := by
  unfold members
  refine wpAny_bind (wpAny_fieldsOf he rfl ?_)
  exact wpAny_pure h
theorem setMembers_m {m : Members} {Q : Unit → Shared → Prop} (he : s.heap.get? e = some (uxObj v0 ms))
    (h : ∀ h', Heap.SameBut e s.heap h' → h'.get? e = some (uxObj v0 (mArr m)) → Q () { s with heap := h' }) : wpAny (model prog w) A (setMembers (.ref e) m) Q E s := by
  unfold setMembers
  refine wpAny_updateFields he rfl ?_ ?_
  · refine h _ (Heap.SameBut.update ..) ?_
    rw [Heap.get?_update_self _ he rfl]
    show some ({ cls := _, data := _ } : Obj) = _
    simp [uxObj, mArr, Obj.mapFields]
  · show ((#[v0, .none, .none, .none, .bool false, .none] ++ ms).extract 0 6 ++ mArr m).size ≤ sizeLine + 3
    have h1 : ((#[v0, Value.none, .none, .none, .bool false, .none] ++ ms).extract 0 6).size ≤ 6 := by simp
    have h2 : (mArr m).size = 5 := rfl
    rw [Array.size_append, sizeLine_eq, h2]; omega
theorem strArg_str {id : String} {i : Nat} {x : Str} {t : Tok} {Q : Unit → Shared → Prop} (h : Q () s) : wpAny (model prog w) A (Builtin.UnicodeEncodeError.strArgument id i (.str x t)) Q E s := by
  unfold Builtin.UnicodeEncodeError.strArgument
  refine wpAny_bind (wpAny_of_eq (a := some x) rfl ?_)
  exact wpAny_pure h
theorem sizeArg_int {id : String} {i : Nat} {t : Tok} {Q : Int → Shared → Prop} (hi : i < 2 ^ 63) (h : Q (i : Int) s) : wpAny (model prog w) A (Builtin.UnicodeEncodeError.sizeArgument id (.int i t)) Q E s := by
  unfold Builtin.UnicodeEncodeError.sizeArgument
  refine wpAny_bind (wpAny_of_eq (a := (i : Int)) rfl ?_)
  rw [if_neg (by simp; omega)]
  exact wpAny_pure h
theorem init_ux {a c r : Str} {t1 t2 t3 t4 t5 : Tok} {i j : Nat} {Q : Fin → Shared → Prop} (hi : i < 2 ^ 63) (hj : j < 2 ^ 63) (he : s.heap.get? e = some (uxObj v0 #[]))
    (h : ∀ h' v1 ms', (∀ b o, b ≠ e → s.heap.get? b = some o → h'.get? b = some o) → h'.get? e = some (uxObj (.ref v1) ms') → s.heap.get? v1 = none → Q (.done (.ret .none)) { s with heap := h' }) :
    wpAny (model prog w) A (Builtin.«UnicodeEncodeError.__init__» ⟨[.ref e, .str a t1, .str c t2, .int i t3, .int j t4, .str r t5], []⟩) Q E s := by
  unfold Builtin.«UnicodeEncodeError.__init__» Builtin.UnicodeEncodeError.beginInit
  refine wpAny_bind ?_
  show wpAny _ _ (do
    let oldArgs ← field (.ref e) 0
    setField (.ref e) 0 (← newTuple [.str a t1, .str c t2, .int i t3, .int j t4, .str r t5])
    letGo [oldArgs]
    _) _ _ _
  obtain ⟨hp, g, d, tk, os⟩ := s
  refine wpAny_bind (wpAny_field he rfl (x := v0) rfl ?_)
  refine wpAny_bind (wpAny_newObj_type ?_ (by show 5 ≤ sizeLine; rw [sizeLine_eq]; exact Nat.le_of_ble_eq_true rfl))
  dsimp only at he ⊢
  generalize hH : hp.push { cls := Value.type "tuple", dict := none, data := Data.seq [Value.str a t1, Value.str c t2, Value.int (↑i) t3, Value.int (↑j) t4, Value.str r t5].toArray } = H1
  have k1 : ∀ b o, hp.get? b = some o → H1.get? b = some o := fun b o q => hH ▸ Heap.get?_push_of_some _ q
  have he1 := k1 _ _ he
  refine wpAny_bind (wpAny_setField he1 rfl (by show 0 < 6; decide) ?_)
  generalize hH2 : H1.update e (Obj.mapFields fun x => x.setIfInBounds 0 (Value.ref hp.objs.size)) = H2
  have k2 : ∀ b o, b ≠ e → H1.get? b = some o → H2.get? b = some o := fun b o hb q => by rw [← hH2, Heap.get?_update_other _ _ (Ne.symm hb)]; exact q
  have he2 : H2.get? e = some (uxObj (.ref hp.objs.size) #[]) := by rw [← hH2, Heap.get?_update_self _ he1 rfl]; rfl
  refine wpAny_bind (wpAny_letGo ?_)
  refine wpAny_ite_true rfl ?_
  refine wpAny_bind (members_0 he2 ?_)
  refine wpAny_bind (setMembers_m he2 fun H3 s3 he3 => ?_)
  refine wpAny_bind (wpAny_letGo ?_)
  refine wpAny_bind (members_m he3 ?_)
  refine wpAny_bind (setMembers_m he3 fun H4 s4 he4 => ?_)
  refine wpAny_bind (wpAny_letGo ?_)
  refine wpAny_bind (members_m he4 ?_)
  refine wpAny_bind (setMembers_m he4 fun H5 s5 he5 => ?_)
  refine wpAny_bind (wpAny_letGo ?_)
  refine wpAny_ite_false (by simp) ?_
  refine wpAny_pure ?_
  dsimp only
  refine wpAny_bind (strArg_str ?_)
  refine wpAny_bind (strArg_str ?_)
  unfold Builtin.UnicodeEncodeError.initRange
  refine wpAny_bind (wpAny_bind (sizeArg_int hi ?_))
  refine wpAny_bind (members_m he5 ?_)
  refine wpAny_bind (setMembers_m he5 fun H6 s6 he6 => ?_)
  refine wpAny_bind (sizeArg_int hj ?_)
  refine wpAny_bind (members_m he6 ?_)
  refine (setMembers_m he6 fun H7 s7 he7 => ?_)
  refine wpAny_bind (strArg_str ?_)
  refine wpAny_bind (members_m he7 ?_)
  refine wpAny_bind (setMembers_m he7 fun H8 s8 he8 => ?_)
  refine wpAny_pure ?_
  exact h H8 _ _ (fun b o hb q => s8.extBut b o hb (s7.extBut b o hb (s6.extBut b o hb (s5.extBut b o hb (s4.extBut b o hb (s3.extBut b o hb (k2 b o hb (k1 b o q)))))))) he8 (Heap.get?_none_of_le (Nat.le_refl _))
theorem type_call_ux {a c r : Str} {t1 t2 t3 t4 t5 : Tok} {i j : Nat} {Q : Fin → Shared → Prop} (hi : i < 2 ^ 63) (hj : j < 2 ^ 63)
    (h : ∀ h' x, MadeUx s.heap h' x → Q (.done (.ret (.ref x))) { s with heap := h' }) :
    wpAny (model prog w) A (Builtin.«type.__call__» ⟨[.type "UnicodeEncodeError", .str a t1, .str c t2, .int i t3, .int j t4, .str r t5], []⟩) Q E s := by
  obtain ⟨hp, g, d, tk, os⟩ := s
  have hnt := ux_notType
  have hcan := ux_canMake
  have hchk := ux_noVector ⟨[.str a t1, .str c t2, .int i t3, .int j t4, .str r t5], []⟩
  obtain ⟨m, hmro, hne⟩ := ux_mro
  have hmade := ux_madeBy
  wp_walk
  refine codeAny_call_builtin_code (Code.quiet_builtin _ (by decide +kernel)) (wpAny_of_eq (ux_newOk _) ?_)
  refine codeAny_exc_new uxNew ?_ (by show 5 ≤ sizeLine; rw [sizeLine_eq]; exact Nat.le_of_ble_eq_true rfl)
  show wpAny _ _ _ _ _ _
  generalize hH : ((hp.push { cls := .type "tuple", data := .seq [Value.str a t1, .str c t2, .int i t3, .int j t4, .str r t5].toArray }).push
      { cls := .type "UnicodeEncodeError", data := .fields #[.ref hp.objs.size, .none, .none, .none, .bool false, .none] }) = H
  have hget : H.get? (hp.objs.size + 1) = some (uxObj (.ref hp.objs.size) #[]) := by rw [← hH]; unfold uxObj; simp only [Array.append_empty]; heap_get
  have hk : ∀ b o, hp.get? b = some o → H.get? b = some o := fun b o q => by rw [← hH]; exact Heap.get?_push_of_some _ (Heap.get?_push_of_some _ q)
  refine wpAny_bind (wpAny_isInstance ⟨_, hget, rfl⟩ ux_sub ?_)
  wp_step
  refine wpAny_bind (wpAny_holding (wpAny_callSpecial?_slot ⟨_, hget, rfl⟩ ux_init (wpAny_call (codeAny_call_builtin ux_init.plain ux_initEntry (ux_init.check _ _ _ _ _ _ _ _ ⟨_, hget, rfl⟩ (ux_args _ _ _ _ _ _) ?_)))))
  refine init_ux hi hj hget fun h' v1 ms' kk hx hv => ?_
  have fin := h h' (hp.objs.size + 1) ⟨fun b o q => kk b o (Nat.ne_of_lt (Nat.lt_succ_of_lt (Heap.lt_size q))) (hk b o q), Heap.get?_none_of_le (Nat.le_succ _), v1, _, hx, by rw [Array.getElem?_append_left (by simp)]; rfl, by rw [Array.getElem?_append_left (by simp)]; rfl, by rw [Array.getElem?_append_left (by simp)]; rfl⟩
  show wpAny _ _ (if (Value.none != Value.none) = true then _ else ret _) _ _ _
  refine wpAny_ite_false (by decide) ?_
  exact wpAny_pure fin
theorem call_ux {a c r : Str} {t1 t2 t3 t4 t5 : Tok} {i j : Nat} {Q : Value → Shared → Prop} (hi : i < 2 ^ 63) (hj : j < 2 ^ 63)
    (h : ∀ h' x, MadeUx s.heap h' x → Q (.ref x) { s with heap := h' }) :
    wpAny (model prog w) A (call (.type "UnicodeEncodeError") [.str a t1, .str c t2, .int i t3, .int j t4, .str r t5]) Q E s := by
  refine wpAny_call (codeAny_of_tree ?_)
  show wpAny _ _ (again (.builtin "type.__call__" ⟨[.type "UnicodeEncodeError", .str a t1, .str c t2, .int i t3, .int j t4, .str r t5], []⟩)) _ _ _
  exact wpAny_pure ⟨Code.quiet_builtin _ (by decide +kernel), codeAny_builtin entry_typeCall (type_call_ux hi hj h)⟩
end
end Mine
end
section
open PySem PySem.W PyProof.Rows
example (prog : Program) (w : World) (A : Around) (E : Value → Shared → Prop) (s : Shared) (Q : Value → Shared → Prop) (h : wpAny (model prog w) A (compareOp .Eq (.int 1 0) (.int 2 0)) Q E s) : wpAny (model prog w) A (compareOp .Eq (.int 1 0) (.int 2 0)) Q E s := by
  w_top off
  k_with_none
  first
    | (walk1; fail)
    | exact h
end
section
open PySem
open Sem (wp)
set_option Elab.async false
set_option autoImplicit false
set_option maxRecDepth 100000
set_option maxHeartbeats 1000000
namespace Mine
section
variable {prog : Program} {w : World} {A : Around} {E : Value → Shared → Prop} {s : Shared}
open Builtin._codecs in
theorem road_ascii (id : String) (self : Value) (x : Str) (errors : Option Str) : encodeRoad id self x (Str.ofString "ascii") errors = (do mkBytes (← encodeNarrow id asciiCodec errors self x)) := by
  first | rfl | (unfold encodeRoad; rfl) | decide
open Builtin._codecs in
theorem enc_tree (x : Str) (t u : Tok) : Builtin.«str.encode» ⟨[.str x t, .str (Str.ofString "ascii") u], []⟩ = (do ret (← encodeRoad "str.encode" (.str x t) x (Str.ofString "ascii") none)) := by first | kernel_rfl | with_unfolding_all rfl
theorem forIn_two {α β : Type} (F : α → β → Sem (ForInStep β)) {a b : α} {rest : List α} {init : β} {Q : β → Shared → Prop}
    (h : wpAny (model prog w) A (F a init) (fun r s' => match r with | .done b' => Q b' s' | .yield b' => wpAny (model prog w) A (F b b') (fun r s'' => match r with | .done b'' => Q b'' s'' | .yield _ => False) E s') E s) :
    wpAny (model prog w) A (forIn (a :: b :: rest) init F) Q E s := by
  rw [List.forIn_cons]
  refine wpAny_bind (wpAny_mono h (fun r s' hr => ?_) fun _ _ e => e)
  cases r with
  | done b' => exact wpAny_pure hr
  | yield b' =>
    show wpAny _ _ (forIn (b :: rest) b' F) _ _ _
    rw [List.forIn_cons]
    refine wpAny_bind (wpAny_mono hr (fun r s' hr => ?_) fun _ _ e => e)
    cases r with
    | done b'' => exact wpAny_pure hr
    | yield b'' => exact hr.elim
theorem forIn_twoT {α β : Type} (F : α → β → Sem (ForInStep β)) {a b : α} {rest : List α} {init b' : β} {Q : β → Shared → Prop}
    (h1 : ∀ R : ForInStep β → Shared → Prop, R (.yield b') s → wpAny (model prog w) A (F a init) R E s) (h2 : wpAny (model prog w) A (F b b') (fun r s'' => match r with | .done b'' => Q b'' s'' | .yield _ => False) E s) :
    wpAny (model prog w) A (forIn (a :: b :: rest) init F) Q E s := forIn_two F (h1 _ h2)
open Builtin._codecs in
theorem fold_list : ∀ (l : List Nat) (acc : Array UInt8), l.foldl (fun acc y => acc ++ (asciiCodec.bytesOf y).toArray) acc = acc ++ (l.map Nat.toUInt8).toArray
  | [], acc => by simp
  | c :: r, acc => by
    rw [List.foldl_cons, fold_list r]
    simp [asciiCodec]
open Builtin._codecs in
theorem fold_bytes (a : Array Nat) : a.foldl (fun acc y => acc ++ (asciiCodec.bytesOf y).toArray) #[] = (a.toList.map Nat.toUInt8).toArray := by
  rw [← Array.foldl_toList, fold_list]; simp
open Builtin._codecs in
theorem narrow_ok {id : String} {self : Value} {x : Str} {Q : Array UInt8 → Shared → Prop} (hl : 2 ≤ x.length) (ha : ∀ c ∈ x.cps.toList, c < 128)
    (hs : x.length ≤ sizeLine) (h : Q (x.cps.toList.map Nat.toUInt8).toArray s) : wpAny (model prog w) A (encodeNarrow id asciiCodec none self x) Q E s := by
  unfold encodeNarrow
  show wpAny _ _ (forIn ([:x.length] : Std.Legacy.Range) (0, (#[] : Array UInt8), ({} : Faults)) _ >>= _) _ _ _
  rw [Std.Legacy.Range.forIn_eq_forIn_range']
  obtain ⟨n, hn⟩ : ∃ n, x.length = n + 2 := ⟨x.length - 2, by omega⟩
  have hr : List.range' 0 ([0:x.length] : Std.Legacy.Range).size 1 = 0 :: 1 :: List.range' 2 n 1 := by
    rw [hn]; simp [Std.Legacy.Range.size, List.range'_succ]
  show wpAny _ _ (forIn (List.range' 0 ([0:x.length] : Std.Legacy.Range).size 1) _ _ >>= _) _ _ _
  rw [hr]
  have hsl : ¬ (#[] : Array UInt8).size > sizeLine := by simp
  have hsz : 0 < x.cps.size := by have : x.cps.size = n + 2 := hn; omega
  have h0 : x.cps[0]? = some x.cps[0] := by simp [hsz]
  have hb : ∀ c ∈ x.cps.toList, asciiCodec.bad c = false := fun c hc => by simp [asciiCodec]; exact ha c hc
  have hb0 : asciiCodec.bad x.cps[0] = false := hb _ (by simp)
  have hfi : Array.findIdx? asciiCodec.bad (x.cps.extract 0 x.cps.size) = none := by
    rw [Array.findIdx?_eq_none_iff]
    intro c hc
    exact hb c (by simpa using hc)
  have hsz2 : (x.cps.extract 0 x.cps.size).size = x.cps.size := by simp
  have hex : (x.cps.extract 0 x.cps.size).extract 0 x.cps.size = x.cps := by simp
  have hsl2 : ¬ (x.cps.toList.map Nat.toUInt8).toArray.size > sizeLine := by
    have : x.cps.size = n + 2 := hn
    simp; omega
  refine' wpAny_bind (forIn_twoT _ (fun R hR => ?t1) ?t2)
  case t1 =>
    dsimp only
    rw [if_neg hsl, h0]
    dsimp only
    rw [hb0]
    refine wpAny_ite_true rfl ?_
    rw [hfi]
    refine wpAny_pure ?_
    dsimp only [Option.getD]
    rw [hsz2, Nat.zero_add, hex, fold_bytes]
    exact hR
  case t2 =>
    dsimp only
    rw [if_neg hsl2, Array.getElem?_eq_none (Nat.le_refl _)]
    exact wpAny_pure (wpAny_pure h)
open Builtin._codecs in
theorem narrow_bad {id : String} {P : Array Nat} {c : Nat} {t : Tok} {Q : Array UInt8 → Shared → Prop} (hl : 1 ≤ P.size) (hs : P.size < 16777216) (ha : ∀ c ∈ P.toList, c < 128) (hc : 128 ≤ c) (hh : A.handled = none)
    (h : ∀ h' e tk, MadeUx s.heap h' e → E (.ref e) { s with heap := h', toks := tk }) : wpAny (model prog w) A (encodeNarrow id asciiCodec none (.str ⟨P ++ #[c]⟩ t) ⟨P ++ #[c]⟩) Q E s := by
  unfold encodeNarrow
  show wpAny _ _ (forIn ([:Str.length ⟨P ++ #[c]⟩] : Std.Legacy.Range) (0, (#[] : Array UInt8), ({} : Faults)) _ >>= _) _ _ _
  rw [Std.Legacy.Range.forIn_eq_forIn_range']
  have hlen : Str.length ⟨P ++ #[c]⟩ = P.size + 1 := by simp [Str.length]
  obtain ⟨n, hn⟩ : ∃ n, Str.length ⟨P ++ #[c]⟩ = n + 2 := ⟨P.size - 1, by omega⟩
  have hr : List.range' 0 ([0:Str.length ⟨P ++ #[c]⟩] : Std.Legacy.Range).size 1 = 0 :: 1 :: List.range' 2 n 1 := by
    rw [hn]; simp [Std.Legacy.Range.size, List.range'_succ]
  show wpAny _ _ (forIn (List.range' 0 ([0:Str.length ⟨P ++ #[c]⟩] : Std.Legacy.Range).size 1) _ _ >>= _) _ _ _
  rw [hr]
  have hsl : ¬ (#[] : Array UInt8).size > sizeLine := by simp
  have hz : (P ++ #[c]).size = P.size + 1 := by simp
  have h0 : (P ++ #[c])[0]? = some P[0] := by rw [Array.getElem?_append_left (by omega)]; simp
  have hb : ∀ c ∈ P.toList, asciiCodec.bad c = false := fun c hc => by simp [asciiCodec]; exact ha c hc
  have hb0 : asciiCodec.bad P[0] = false := hb _ (by simp)
  have hbc : asciiCodec.bad c = true := by simp [asciiCodec]; exact hc
  have hfi : Array.findIdx? asciiCodec.bad ((P ++ #[c]).extract 0 (P ++ #[c]).size) = some P.size := by
    rw [Array.extract_size, Array.findIdx?_append]
    have hn1 : Array.findIdx? asciiCodec.bad P = none := by
      rw [Array.findIdx?_eq_none_iff]
      intro c hc
      exact hb c (by simpa using hc)
    rw [hn1]
    simp [hbc]
  have hex : ((P ++ #[c]).extract 0 (P ++ #[c]).size).extract 0 P.size = P := by rw [Array.extract_size, Array.extract_append_left]; simp
  have hsl2 : ¬ (P.toList.map Nat.toUInt8).toArray.size > sizeLine := by simp [sizeLine_eq]; omega
  have h1 : (P ++ #[c])[P.size]? = some c := by simp
  have hstr : (Str.ofString "strict").toString = "strict" := by first | kernel_rfl | decide
  have hex2 : (P ++ #[c]).extract P.size (P ++ #[c]).size = #[c] := by
    rw [hz]
    apply Array.toList_inj.mp
    rw [Array.toList_extract, Array.toList_append, List.extract]
    simp
  have hst : Array.findIdx? (fun y => !asciiCodec.bad y) ((P ++ #[c]).extract P.size (P ++ #[c]).size) = none := by
    rw [hex2]; simp [hbc]
  have hd : (P ++ #[c]).size - P.size = 1 := by rw [hz]; omega
  refine' wpAny_bind (forIn_twoT _ (fun R hR => ?t1) ?t2)
  case t1 =>
    dsimp only
    rw [if_neg hsl, h0]
    dsimp only
    rw [hb0]
    refine wpAny_ite_true rfl ?_
    rw [hfi]
    refine wpAny_pure ?_
    dsimp only [Option.getD]
    rw [Nat.zero_add, hex, fold_bytes]
    exact hR
  dsimp only
  rw [if_neg hsl2, h1]
  dsimp only
  rw [hbc]
  refine wpAny_ite_false rfl ?_
  refine wpAny_bind (wpAny_rule ?_)
  simp only [hstr, hst, hd]
  show wpAny _ _ (if (("strict" : String) == "strict" && !(asciiCodec.name == "utf-8")) = true then _ else _) _ _ _
  refine wpAny_ite_true (by decide) ?_
  refine wpAny_bind ?_
  unfold raiseEncodeFault
  refine wpAny_bind ?_
  show wpAny _ _ (mkStr (Str.ofString asciiCodec.name) >>= fun a => (pure (Value.str ⟨P ++ #[c]⟩ t)) >>= fun o => mkInt (P.size : Int) >>= fun st => mkInt ((P.size + 1 : Nat) : Int) >>= fun sp => mkStr (Str.ofString asciiCodec.reason) >>= fun r => call (.type "UnicodeEncodeError") [a, o, st, sp, r]) _ _ _
  obtain ⟨hp, g, d, tk, os⟩ := s
  refine wpAny_bind (wpAny_mkStr' ?_ (by rw [sizeLine_eq]; decide))
  refine wpAny_bind (wpAny_pure ?_)
  refine wpAny_bind (wpAny_mkInt' ?_)
  refine wpAny_bind (wpAny_mkInt' ?_)
  refine wpAny_bind (wpAny_mkStr' ?_ (by rw [sizeLine_eq]; decide))
  refine call_ux (by omega) (by omega) fun h' e hm => ?_
  exact wpAny_raiseNew_none hh (h _ _ _ hm)
theorem gm_encode {M : Model} {pl : Sem Bool} {x : Str} {t : Tok} {Q : Value × List Value → Shared → Prop} (h : Q (.builtin "str.encode", [.str x t]) s) : wpAny M A (getMethod (.str x t) "encode" pl) Q E s := by
  with_reducible exact GM.of (.str x t) (typeIs_str _ _ _) F.slot_str_encode F.type_str_encode GM.noRef h
theorem enc_call_ok {x : Str} {t u : Tok} {Q : Value → Shared → Prop} (hl : 2 ≤ x.length) (ha : ∀ c ∈ x.cps.toList, c < 128) (hs : x.length ≤ sizeLine)
    (h : Q (.bytes (x.cps.toList.map Nat.toUInt8).toArray s.toks) { s with toks := s.toks + 1 }) :
    wpAny (model prog w) A (call (.builtin "str.encode") [.str x t, .str (Str.ofString "ascii") u]) Q E s := by
  refine wpAny_call_entry F.slot_str_encode (typeIs_str _ _ _) F.entry_str_encode ?_ (F.args_str_encode_2 _ _)
  rw [enc_tree, road_ascii]
  refine wpAny_bind (wpAny_bind (narrow_ok hl ha hs ?_))
  refine wpAny_mkBytes ?_ (by simpa [Str.length] using hs)
  exact wpAny_pure ⟨_, rfl, h⟩
theorem enc_call_bad {P : Array Nat} {c : Nat} {t u : Tok} {Q : Value → Shared → Prop} (hl : 1 ≤ P.size) (hs : P.size < 16777216) (ha : ∀ c ∈ P.toList, c < 128) (hc : 128 ≤ c) (hh : A.handled = none)
    (h : ∀ h' e tk, MadeUx s.heap h' e → E (.ref e) { s with heap := h', toks := tk }) :
    wpAny (model prog w) A (call (.builtin "str.encode") [.str ⟨P ++ #[c]⟩ t, .str (Str.ofString "ascii") u]) Q E s := by
  refine wpAny_call_entry F.slot_str_encode (typeIs_str _ _ _) F.entry_str_encode ?_ (F.args_str_encode_2 _ _)
  rw [enc_tree, road_ascii]
  refine wpAny_bind (wpAny_bind (narrow_bad hl hs ha hc ?_ ?_))
  · exact hh
  · intro h' e tk hm
    exact h h' e tk hm
end
end Mine
end
section
open PySem PySem.W PyProof.Rows
example (prog : Program) (w : World) (A : Around) (E : Value → Shared → Prop) (s : Shared) (Q : Value → Shared → Prop) (h : wpAny (model prog w) A (compareOp .Eq (.int 1 0) (.int 2 0)) Q E s) : wpAny (model prog w) A (compareOp .Eq (.int 1 0) (.int 2 0)) Q E s := by
  w_top off
  k_with_none
  first
    | (walk1; fail)
    | exact h
end
section
open PySem
open Sem (wp)
set_option Elab.async false
set_option autoImplicit false
set_option maxRecDepth 100000
set_option maxHeartbeats 1000000
namespace Mine
theorem entry_unchain : entryFor table "proto.unchain" = some Builtin.«proto.unchain» := entryFor_of_tree (by kernel_rfl)
section
variable {prog : Program} {w : World} {A : Around} {E : Value → Shared → Prop} {s : Shared}
theorem unchain_none {e : Value} {h : Addr} {o : Obj} {vs : Array Value} {Q : Value → Shared → Prop} (ho : s.heap.get? h = some o) (hd : o.data = .fields vs) (h2 : vs[2]? = some .none) (hq : Q .none s) :
    wpAny (model prog w) A (runValue (.builtin "proto.unchain" ⟨[e, .ref h, .ref h, .bool false], []⟩)) Q E s := by
  refine wpAny_runValue (codeAny_builtin entry_unchain ?_)
  show wpAny _ _ (do
    let context ← field (.ref h) 2
    _) _ _ _
  refine wpAny_bind (wpAny_field ho hd h2 ?_)
  refine wpAny_ite_true (by decide) ?_
  refine wpAny_bind (wpAny_pure ?_)
  refine wpAny_pure ?_
  exact hq
theorem raiseNew_in {α : Type} {e h : Addr} {o oe : Obj} {vs ws : Array Value} {Q : α → Shared → Prop} (hh : A.handled = some (.ref h)) (hne : h ≠ e) (ho : s.heap.get? h = some o) (hd : o.data = .fields vs) (h2 : vs[2]? = some .none)
    (he : s.heap.get? e = some oe) (hde : oe.data = .fields ws) (hw : 2 < ws.size)
    (hE : E (.ref e) { s with heap := s.heap.update e (Obj.mapFields (·.setIfInBounds 2 (.ref h))) }) : wpAny (model prog w) A (raiseNew (.ref e) : Sem α) Q E s := by
  unfold raiseNew
  refine wpAny_bind (wpAny_handled ?_)
  rw [hh]
  dsimp only
  refine wpAny_ite_true (by simp [hne]) ?_
  refine wpAny_bind (wpAny_holding (unchain_none ho hd h2 ?_))
  show wpAny _ _ (setField (.ref e) 2 (.ref h) >>= fun _ => throw (Value.ref e)) _ _ _
  refine wpAny_bind (wpAny_setField he hde hw ?_)
  exact wpAny_throw hE
theorem raiseStmt_in {env : Env} {cls : String} (F : ExcRaiseFacts cls) {x : Sem Value} {Q : Flow → Shared → Prop} {h : Addr} (hh : A.handled = some (.ref h))
    (hx : wpAny (model prog w) A x (fun v s₁ => ∃ e t, v = .ref e ∧ s₁.heap.get? e = some { cls := .type cls, data := .fields #[.ref t, .none, .none, .none, .bool false, .none] } ∧ h ≠ e ∧
      (∃ o vs, s₁.heap.get? h = some o ∧ o.data = .fields vs ∧ vs[2]? = some .none) ∧
      ∀ h', (∀ b o, b ≠ e → s₁.heap.get? b = some o → h'.get? b = some o) → h'.get? e = some { cls := .type cls, data := .fields #[.ref t, .none, .ref h, .none, .bool false, .none] } → E (.ref e) { s₁ with heap := h' }) E s) :
    wpAny (model prog w) A (raiseStmt env (some x) none) Q E s := by
  unfold raiseStmt
  refine wpAny_bind (wpAny_mono hx (fun v s₁ h₁ => ?_) fun _ _ x => x)
  obtain ⟨e, t, rfl, he, hne, ⟨o, vs, ho, hd, h2⟩, hE⟩ := h₁
  obtain ⟨hp, g, d, tk, os⟩ := s₁
  have hsub := F.isExc
  have hmeta := F.plainMeta
  repeat (first | refine wpAny_loadPart he ?_ | wp_step)
  refine raiseNew_in hh hne ho hd h2 he rfl (by show 2 < 6; decide) ?_
  refine hE _ (fun b o hb q => ?_) ?_
  · rw [Heap.get?_update_other _ _ (Ne.symm hb)]; exact q
  · rw [Heap.get?_update_self _ he rfl]; rfl
theorem Raise_in {env : Env} {cls newId initId : String} (F : ExcCallFacts cls newId initId) (G : ExcRaiseFacts cls) {x : Str} {np cpos pos : Pos} {args : List Expr} {Q : Flow → Shared → Prop} {hx : Addr} (hh : A.handled = some (.ref hx))
    (hplain : (backTo cpos (starEach args env)).any (·.1) = false)
    (h : wpAny (model prog w) A (eval (.Name x np) env) (fun f s₁ => f = .type cls ∧ wpAny (model prog w) A (evalArgs (.type cls) true (backTo cpos (starEach args env)) [])
      (fun a s₂ => a.kw = [] ∧ a.pos.length ≤ sizeLine ∧ (∃ o vs, s₂.heap.get? hx = some o ∧ o.data = .fields vs ∧ vs[2]? = some .none) ∧
        ∀ h' e t, s₂.heap.get? e = none → s₂.heap.get? t = none → (∀ b o, s₂.heap.get? b = some o → h'.get? b = some o) → h'.get? e = some { cls := .type cls, data := .fields #[.ref t, .none, .ref hx, .none, .bool false, .none] } →
          h'.get? t = some { cls := .type "tuple", data := .seq a.pos.toArray } → E (.ref e) { s₂ with heap := h' }) E s₁) E s) :
    wpAny (model prog w) A (exec (.Raise (some (.Call (.Name x np) args [] cpos)) none pos) env) Q E s := by
  show wpAny _ A (do standAt pos; raiseStmt env (some (do let v ← eval (.Call (.Name x np) args [] cpos) env; standAt pos; pure v)) none) Q E s
  refine wpAny_bind (wpAny_standAt (raiseStmt_in G hh (wpAny_bind (wpAny_mono (wpAny_Call_ofName (wpAny_mono h (fun f s₁ h₁ => ?_) fun _ _ x => x)) (fun v s₁ h₁ => wpAny_bind (wpAny_standAt (wpAny_pure h₁))) fun _ _ x => x))))
  obtain ⟨rfl, h₁⟩ := h₁
  refine callWith_excType hplain (wpAny_mono h₁ (fun a s₂ h₂ => ?_) fun _ _ x => x)
  obtain ⟨apos, akw⟩ := a
  obtain ⟨hkw, hlen, ⟨o, vs, ho, hd, h2⟩, h₂⟩ := h₂
  obtain rfl : akw = [] := hkw
  obtain ⟨hp, g, d, tk, os⟩ := s₂
  refine wpAny_call_exc F (hrest := hlen) fun h' e hm => ?_
  obtain ⟨t, ht, htn, htt⟩ := hm.there
  have hne : hx ≠ e := fun q => by
    have := hm.new
    rw [← q] at this
    rw [this] at ho; cases ho
  have hte : t ≠ e := fun q => by rw [q, ht] at htt; cases htt
  exact ⟨e, t, rfl, ht, hne, ⟨o, vs, hm.keeps _ _ ho, hd, h2⟩, fun h'' k he => h₂ h'' e t hm.new htn (fun b o hb => k b o (fun q => by rw [q, hm.new] at hb; cases hb) (hm.keeps b o hb)) he (k _ _ hte htt)⟩
end
end Mine
end
section
open PySem PySem.W PyProof.Rows
example (prog : Program) (w : World) (A : Around) (E : Value → Shared → Prop) (s : Shared) (Q : Value → Shared → Prop) (h : wpAny (model prog w) A (compareOp .Eq (.int 1 0) (.int 2 0)) Q E s) : wpAny (model prog w) A (compareOp .Eq (.int 1 0) (.int 2 0)) Q E s := by
  w_top off
  k_with_none
  first
    | (walk1; fail)
    | exact h
end
section
open PySem PyProof.Rows
open Sem (wp)
set_option Elab.async false
set_option autoImplicit false
set_option maxRecDepth 100000
set_option maxHeartbeats 1000000
namespace Mine
section
variable {M : Model} {A : Around} {E : Value → Shared → Prop} {s : Shared}
/-- an exception record with its traceback and all its fields but the second known -/
noncomputable def Tb (base : Heap) (e : Addr) (oe : Obj) (vs : Array Value) (fl : Value) (h : Heap) : Prop :=
  ∃ T oT ts, h.get? e = some { oe with data := .fields (vs.setIfInBounds 1 (.ref T)) } ∧ base.get? T = none ∧ T ≠ e ∧ h.get? T = some oT ∧ oT.data = .fields ts ∧ ts[3]? = some fl
theorem note1 {base : Heap} {env : Env} {outer : List Env} {L e : Addr} {oe : Obj} {vs : Array Value} {Q : Unit → Shared → Prop}
    (hfr : A.frames = some (env :: outer)) (hl : s.heap.FunFrames base (env :: outer)) (hf : env.frame = some L)
    (he : s.heap.get? e = some oe) (hkb : base.StaysIn s.heap) (hen : base.get? e = none) (hd : oe.data = .fields vs) (h1 : vs[1]? = some .none)
    (h : ∀ h', base.StaysIn h' → h'.FunFrames base (env :: outer) → s.heap.UpToSlots h' → Tb base e oe vs (rawInt L) h' → Q () { s with heap := h' }) :
    wpAny M A (noteFrame (.ref e) env) Q E s := by
  have hsz := (Array.getElem?_eq_some_iff.mp h1).1
  unfold noteFrame
  simp only [hf]
  refine wpAny_bind (wpAny_field he hd h1 ?_)
  rw [if_neg (by decide)]
  have hene : e ∉ (env :: outer).filterMap (·.frame) := fun hm => by
    obtain ⟨_, o, ho, hnf⟩ := hl.mem hm
    rw [he] at ho; injection ho with ho; subst ho; exact hnf vs hd
  refine wpAny_bind (wpAny_frameOf_fun hfr hl hf fun h₁ hs₁ => ?_)
  refine wpAny_bind (wpAny_entryPlaceOf fun pl hpl => ?_)
  unfold EntryCells.newEntry newFields
  refine wpAny_bind (wpAny_newObj_type ?_ (hpl.sizeOk5 _ _ _ _ _))
  have he₁ : h₁.get? e = some oe := (hs₁.2.1 e hene).trans he
  have kb₁ : base.StaysIn h₁ := fun b o hbo => (hs₁.2.1 b fun hm => by rw [(hl.mem hm).1] at hbo; cases hbo).trans (hkb b o hbo)
  generalize hT : ({ cls := .type "traceback", dict := none, data := .fields ([Value.none, .ref L, .none, rawInt L, .none] ++ (if pl.isEmpty then List.replicate 6 Value.none else pl)).toArray } : Obj) = oT
  have hTd : oT.data = .fields ([Value.none, .ref L, .none, rawInt L, .none] ++ (if pl.isEmpty then List.replicate 6 Value.none else pl)).toArray := by rw [← hT]
  have hTf : oT.isFreed = false := Obj.isFreed_of_fields hTd
  have he₂ := Heap.get?_push_of_some (h := h₁) oT he₁
  refine wpAny_setField he₂ hd hsz ?_
  have hTe : h₁.objs.size ≠ e := Nat.ne_of_gt (Heap.lt_size he₁)
  have hd₃ := Obj.data_mapFields hd (·.setIfInBounds 1 (Value.ref h₁.objs.size))
  have he₃ := Heap.get?_update_self (Obj.mapFields (·.setIfInBounds 1 (Value.ref h₁.objs.size))) he₂ (Obj.isFreed_of_fields hd₃)
  have hT₃ := (Heap.get?_update_other (h₁.push oT) (Obj.mapFields (·.setIfInBounds 1 (Value.ref h₁.objs.size))) (Ne.symm hTe)).trans (Heap.get?_push_size h₁ hTf)
  have keep : ∀ b o, b ≠ e → h₁.get? b = some o → ((h₁.push oT).update e (Obj.mapFields (·.setIfInBounds 1 (Value.ref h₁.objs.size)))).get? b = some o := fun b o hbe hb => by
    rw [Heap.get?_update_other _ _ (Ne.symm hbe)]
    exact Heap.get?_push_of_some _ hb
  have noRecord : ∀ b o, s.heap.get? b = some o → (∀ vs, o.data ≠ .fields vs) → b ≠ e := fun b o hb hnf q => by
    rw [q, he] at hb; injection hb with hb; subst hb; exact hnf vs hd
  refine h _ (fun b o hbo => keep b o (fun q => by rw [q, hen] at hbo; cases hbo) (kb₁ b o hbo)) (hl.of_keeps fun b o hb hnf => ?_) (fun b o hb hnf => ?_) ⟨h₁.objs.size, oT, _, ?_, kb₁.fresh, hTe, hT₃, hTd, ?_⟩
  · obtain ⟨sl, hs⟩ := hs₁.2.2 b o hb
    exact ⟨_, keep b _ (noRecord b o hb hnf) hs, rfl⟩
  · obtain ⟨sl, hs⟩ := hs₁.2.2 b o hb
    exact ⟨sl, keep b _ (noRecord b o hb hnf) hs⟩
  · rw [he₃]
    obtain ⟨c, dd, dt, sl⟩ := oe
    obtain rfl : dt = _ := hd
    rfl
  · simp
theorem landF {base : Heap} {l : List Env} {e : Addr} {oe : Obj} {vs : Array Value} {fl : Value} {fr : Option Addr} {Q : Unit → Shared → Prop}
    (hkb : base.StaysIn s.heap) (hl : s.heap.FunFrames base l) (hsz : 1 < vs.size) (ht : Tb base e oe vs fl s.heap)
    (h : ∀ h', base.StaysIn h' → h'.FunFrames base l → s.heap.UpToSlots h' → Tb base e oe vs (fr.elim .none fun f => rawInt f) h' → Q () { s with heap := h' }) :
    wpAny M A (setFlight (.ref e) fr) Q E s := by
  obtain ⟨T, oT, ts, he, hnT, hTe, hT, hdT, h3⟩ := ht
  have hsz3 : 3 < ts.size := (Array.getElem?_eq_some_iff.mp h3).1
  have other : ∀ b, b ≠ T → (s.heap.update T (Obj.mapFields (·.setIfInBounds 3 (fr.elim Value.none fun f => rawInt f)))).get? b = s.heap.get? b :=
    fun b hb => Heap.get?_update_other _ _ (Ne.symm hb)
  have noRecord : ∀ b o, s.heap.get? b = some o → (∀ vs, o.data ≠ .fields vs) → b ≠ T := fun b o hb hnf q => by
    rw [q, hT] at hb; injection hb with hb; subst hb; exact hnf ts hdT
  unfold setFlight
  refine wpAny_bind (wpAny_field he rfl (x := .ref T) (by simp [hsz]) ?_)
  rw [if_pos (show (Value.ref T != Value.none) = true from by simp)]
  refine wpAny_setField hT hdT hsz3 (h _ (fun b o hbo => (other b fun q => by rw [q, hnT] at hbo; cases hbo).trans (hkb b o hbo))
    (hl.of_keeps fun b o hb hnf => ⟨o, (other b (noRecord b o hb hnf)).trans hb, rfl⟩) (fun b o hb hnf => ⟨o.slots, (other b (noRecord b o hb hnf)).trans hb⟩) ?_)
  exact ⟨T, _, _, (other e (Ne.symm hTe)).trans he, hnT, hTe, Heap.get?_update_self _ hT (Obj.isFreed_of_fields (Obj.data_mapFields hdT _)), Obj.data_mapFields hdT _, by simp [hsz3]⟩
theorem land1 {base : Heap} {l : List Env} {e : Addr} {oe : Obj} {vs : Array Value} {fl : Value} {Q : Unit → Shared → Prop}
    (hkb : base.StaysIn s.heap) (hl : s.heap.FunFrames base l) (hsz : 1 < vs.size) (ht : Tb base e oe vs fl s.heap)
    (h : ∀ h', base.StaysIn h' → h'.FunFrames base l → s.heap.UpToSlots h' → Tb base e oe vs .none h' → Q () { s with heap := h' }) :
    wpAny M A (setFlight (.ref e) none) Q E s := landF hkb hl hsz ht h
theorem Tb.traced {base : Heap} {e : Addr} {oe : Obj} {vs : Array Value} {fl a0 : Value} {h : Heap} (x : Tb base e oe vs fl h) (hsz : 1 < vs.size) (h0 : vs[0]? = some a0) : h.TracedAtW base e oe.cls a0 fl := by
  obtain ⟨T, oT, ts, he, hnT, hTe, hT, hdT, h3⟩ := x
  exact ⟨_, _, T, oT, ts, he, ⟨rfl, by rw [Array.getElem?_setIfInBounds_ne (by decide)]; exact h0⟩, rfl, by simp [hsz], hnT, hTe, hT, hdT, h3⟩
theorem came {env : Env} {base : Heap} {l : List Env} {e L : Addr} {oe : Obj} {vs : Array Value} {fl : Value} {Ek : Value → Shared → Prop} (hf : env.frame = some L)
    (hkb : base.StaysIn s.heap) (hl : s.heap.FunFrames base l) (hsz : 1 < vs.size) (ht : Tb base e oe vs fl s.heap)
    (h : ∀ h', base.StaysIn h' → h'.FunFrames base l → s.heap.UpToSlots h' → Tb base e oe vs (rawInt L) h' → Ek (.ref e) { s with heap := h' }) : cameBackBy M A env Ek (.ref e) s := by
  unfold cameBackBy
  have ht' := ht
  obtain ⟨T, oT, ts, he, hnT, hTe, hT, hdT, h3⟩ := ht'
  refine wpAny_bind (wpAny_field he rfl (x := .ref T) (by simp [hsz]) ?_)
  rw [if_neg (show ¬ ((Value.ref T == Value.none) = true) from by simp), hf]
  exact landF hkb hl hsz ht h
theorem leave_held {env : Env} {outer : List Env} {base : Heap} {e L : Addr} {oe : Obj} {vs : Array Value} {a0 : Value} {Q : Unit → Shared → Prop} (hf : env.frame = some L)
    (hkb : base.StaysIn s.heap) (hen : base.get? e = none) (hl : s.heap.FunFrames base (env :: outer)) (hsz : 1 < vs.size) (h0 : vs[0]? = some a0) (ht : Tb base e oe vs (rawInt L) s.heap)
    (h : ∀ h', Heap.FlyingW base outer e oe.cls a0 h' → s.heap.UpToSlots h' → Q () { s with heap := h' }) : wpAny M A (leaving env (.ref e)) Q E s := by
  unfold leaving
  refine wpAny_bind (wpAny_noteFrame_againW hf (ht.traced hsz h0) ?_)
  refine land1 hkb hl hsz ht fun h' k1 k2 k3 k4 => ?_
  exact h h' ⟨k1, hen, k2.2.2, k4.traced hsz h0⟩ k3
theorem ff_of {g base b' : Heap} {l : List Env} {h : Heap} (hg : g.FunFrames base l) (hk : ∀ b o, g.get? b = some o → (∀ vs, o.data ≠ .fields vs) → ∃ o', h.get? b = some o' ∧ o'.data = o.data) (hb : ∀ b ∈ l.filterMap (·.frame), b'.get? b = none) : h.FunFrames b' l := by
  induction l with
  | nil => trivial
  | cons env r ih =>
    obtain ⟨hkk, ⟨L, o, hf, hn, ho, hd⟩, hr⟩ := hg
    obtain ⟨o', ho', hd'⟩ := hk L o ho hd
    rw [List.filterMap_cons, hf] at hb
    exact ⟨hkk, ⟨L, o', hf, hb L (.head _), ho', fun vs => hd' ▸ hd vs⟩, ih hr fun b hm => hb b (.tail _ hm)⟩
end
end Mine
end
section
open PySem PySem.W PyProof.Rows
example (prog : Program) (w : World) (A : Around) (E : Value → Shared → Prop) (s : Shared) (Q : Value → Shared → Prop) (h : wpAny (model prog w) A (compareOp .Eq (.int 1 0) (.int 2 0)) Q E s) : wpAny (model prog w) A (compareOp .Eq (.int 1 0) (.int 2 0)) Q E s := by
  w_top off
  k_with_none
  first
    | (walk1; fail)
    | exact h
end
section
open PySem PySem.W PyProof.Rows PySem.Spec PySem.Calls
set_option Elab.async false
set_option autoImplicit false
set_option maxRecDepth 100000
set_option maxHeartbeats 1000000
namespace Mine
section
variable {prog : Program} {w : World} {A : Around} {E : Value → Shared → Prop} {s : Shared}
theorem name_built {g h1 : Heap} {L : Addr} {mm mg mb : Str → Option Value} {p : Program} {loose : List Str} {mean : ExcName → Option Value} {K : Frag} {env : Env} {x : Str} {pos : Pos} {v : Value} {Q : Value → Shared → Prop}
    (F : Fr g L h1 mm) (U : h1.UpToSlots s.heap) (X : K.In g) (T : Top p loose mean mg mb g) (e : nsIn K mainGlobals x = some none) (hv : bootBuiltins x = some v) (hn : x ≠ "__name__") (h : Q v s) (hg : env.globals = mainGlobals) (hb : env.builtins = builtinsNs)
    (hk : env.scope.kind = .function) (hx : env.kindOf x = some .globalImplicit) (hd : (x == ("__debug__" : Str)) = false) :
    wpAny (model prog w) A (eval (.Name x pos) env) Q E s :=
  Name_function_global hk hx (loadGlobal_builtin (env := env) (show s.heap.Ns env.globals mg from hg ▸ (U.ns (T.keeps F.keep).g)) (mg_none_of X T.g e) (show s.heap.Ns env.builtins mb from hb ▸ (U.ns (T.keeps F.keep).b)) ((T.builtins x hn).trans hv) h) hd
theorem ux_isExc : isSubtype (.type "UnicodeEncodeError") (.type "BaseException") = pure true := by rw [isSubtype_type]; kernel_rfl
theorem ux_notTup : isSubtype (.type ((Manifest.find? "UnicodeEncodeError").elim "type" fun x => x.metatype)) (.type "tuple") = pure false := isSubtype_of_subB (by decide +kernel)
theorem ux_boot : bootBuiltins "UnicodeEncodeError" = some (.type "UnicodeEncodeError") := by decide +kernel
theorem ve_boot : bootBuiltins "ValueError" = some (.type "ValueError") := by decide +kernel
noncomputable def uxHandler (msg : Str) (np np2 cpos1 cpos rpos hpos : Pos) (kk : Nat) : ExceptHandler :=
  .ExceptHandler (some (.Name "UnicodeEncodeError" np)) none [.Raise (some (.Call (.Name "ValueError" np2) [.Constant (.str msg) kk cpos1] [] cpos)) none rpos] hpos
theorem bad_tail {nm : Str} {sc : Scope} {L2 a2 e1 : Addr} {cd2 : Value} {l : List Env} {base g h1 : Heap} {mm mg mb : Str → Option Value} {p : Program} {loose : List Str} {mean : ExcName → Option Value} {K : Frag} {msg : Str} {np np2 cpos1 cpos rpos hpos : Pos} {kk : Nat} {Qh : Flow → Shared → Prop}
    (hA : A.frames = some l) (hk : sc.kind = .function) (hff : g.FunFrames base l) (F : Fr g L2 h1 mm) (X : K.In g) (T : Top p loose mean mg mb g) (hm1 : MadeUx h1 s.heap e1)
    (x1 : nsIn K mainGlobals "UnicodeEncodeError" = some none) (x2 : nsIn K mainGlobals "ValueError" = some none)
    (u1 : (envOf nm sc L2 a2 cd2).kindOf "UnicodeEncodeError" = some .globalImplicit) (u2 : (envOf nm sc L2 a2 cd2).kindOf "ValueError" = some .globalImplicit)
    (k : ∀ b' e t u h' tk, Heap.FlyingW b' l e (.type "ValueError") (.ref t) h' → b'.get? t = none → h'.TupAt t [.str msg u] → (∀ b o, h1.get? b = some o → b ∉ L2 :: l.filterMap (·.frame) → b'.get? b = some o) → (∀ b o, b'.get? b = some o → h1.get? b = some o) →
      h1.UpToSlots h' → E (.ref e) { s with heap := h', toks := tk }) :
    wpAny (model prog w) (A.deeper (envOf nm sc L2 a2 cd2)) (noteFrame (.ref e1) (envOf nm sc L2 a2 cd2)) (fun _ s₂ => wpAny (model prog w) (A.deeper (envOf nm sc L2 a2 cd2)) (setFlight (.ref e1) none) (fun _ s₃ =>
      wpAny (model prog w) (A.deeper (envOf nm sc L2 a2 cd2)) (handleBy (.ref e1) (envOf nm sc L2 a2 cd2) [uxHandler msg np np2 cpos1 cpos rpos hpos kk]) Qh
        (fun e s' => wpAny (model prog w) (A.deeper (envOf nm sc L2 a2 cd2)) (leaving (envOf nm sc L2 a2 cd2) e) (fun _ s'' => E e s'') (fun e' s'' => E e' s'') s') s₃)
        (fun e s' => wpAny (model prog w) (A.deeper (envOf nm sc L2 a2 cd2)) (leaving (envOf nm sc L2 a2 cd2) e) (fun _ s'' => E e s'') (fun e' s'' => E e' s'') s') s₂)
      (fun e s' => wpAny (model prog w) (A.deeper (envOf nm sc L2 a2 cd2)) (leaving (envOf nm sc L2 a2 cd2) e) (fun _ s'' => E e s'') (fun e' s'' => E e' s'') s') s := by
  generalize hfs : L2 :: l.filterMap (·.frame) = fs at k
  have hkind : (envOf nm sc L2 a2 cd2).scope.kind ≠ .module := by
    show sc.kind ≠ .module
    rw [hk]; decide
  have hfl : (envOf nm sc L2 a2 cd2 :: l).filterMap (·.frame) = fs := hfs
  have hAf := Around.frames_deeper (env := envOf nm sc L2 a2 cd2) hA
  have k0 := hm1.keeps
  have k00 : ∀ b o, g.get? b = some o → s.heap.get? b = some o := fun b o q => k0 b o (F.keep b o q)
  have st0 : (TI.gone h1 fs).StaysIn s.heap := fun b o q => k0 b o (TI.gone_some q).2
  have hen1 : (TI.gone h1 fs).get? e1 = none := TI.none_of (fun b o q => (TI.gone_some q).2) hm1.new
  have ff0 : s.heap.FunFrames (TI.gone h1 fs) (envOf nm sc L2 a2 cd2 :: l) := by
    obtain ⟨oL, es, ep, hL, hLd, _⟩ := F.ns
    exact ⟨hkind, ⟨L2, oL, rfl, TI.gone_none (by rw [← hfs]; exact .head _), k0 _ _ hL, fun vs q => by rw [hLd] at q; cases q⟩,
      ff_of hff (fun b o q _ => ⟨o, k00 b o q, rfl⟩) fun b hb => TI.gone_none (by rw [← hfs]; exact .tail _ hb)⟩
  obtain ⟨t1, vs1, he1, v0, v1, v2⟩ := hm1.there
  have hsz1 : 1 < vs1.size := (Array.getElem?_eq_some_iff.mp v1).1
  have up0 : h1.UpToSlots s.heap := Heap.UpToSlots.of_keeps k0
  refine note1 hAf ff0 rfl he1 st0 hen1 rfl v1 fun h3 st3 ff3 up3 tb3 => ?_
  refine land1 st3 ff3 hsz1 tb3 fun h4 st4 ff4 up4 tb4 => ?_
  refine wpAny_handleBy_builtin (X := "UnicodeEncodeError") (T := "UnicodeEncodeError") (b := true) ux_isExc ux_notTup ux_sub ?_
  refine name_built (s := { s with heap := h4 }) F (up0.trans (up3.trans up4)) X T x1 ux_boot (by decide) ?_ rfl rfl hk u1 (by decide)
  obtain ⟨T4, oT4, ts4, he4, r4⟩ := tb4
  refine ⟨rfl, ⟨_, he4, rfl⟩, ?_⟩
  rw [if_pos rfl]
  refine land1 (s := { s with heap := h4 }) st4 ff4 hsz1 ⟨T4, oT4, ts4, he4, r4⟩ fun h5 st5 ff5 up5 tb5 => ?_
  refine wpAny_execs_cons ?_
  have up05 : h1.UpToSlots h5 := up0.trans (up3.trans (up4.trans up5))
  have hme : fs = fs := rfl
  refine Raise_in PySem.F.excCall_ValueError PySem.F.excRaise_ValueError (hx := e1) rfl rfl ?_
  refine name_built (s := { s with heap := h5 }) F up05 X T x2 ve_boot (by decide) ?_ rfl rfl hk u2 (by decide)
  refine ⟨rfl, ?_⟩
  show wpAny _ _ (evalArgs _ true [(false, eval (.Constant (.str msg) kk cpos1) (envOf nm sc L2 a2 cd2))] []) _ _ _
  refine evalArgs_plain (spliced_cons (Constant_str (spliced_nil ?_)))
  obtain ⟨T5, oT5, ts5, he5, _⟩ := tb5
  refine ⟨rfl, by show 1 ≤ sizeLine; rw [sizeLine_eq]; decide, ⟨_, _, he5, rfl, by rw [Array.getElem?_setIfInBounds_ne (by decide)]; exact v2⟩, ?_⟩
  intro h6 e2 t2 hn2 hnt2 k6 he2 ht2
  have st6 : (TI.gone h1 fs).StaysIn h6 := fun b o q => k6 b o (st5 b o q)
  have fresh : ∀ b, h5.get? b = none → (TI.gone h1 fs).get? b = none := fun b q => TI.none_of st5 q
  have ff6 : h6.FunFrames (TI.gone h1 fs) (envOf nm sc L2 a2 cd2 :: l) := ff5.of_keeps fun b o q _ => ⟨o, k6 b o q, rfl⟩
  show wpAny _ _ (noteFrame (.ref e2) (envOf nm sc L2 a2 cd2)) _ _ _
  refine note1 (base := TI.gone h1 fs) (outer := l) hAf ff6 rfl he2 st6 (fresh _ hn2) rfl rfl fun h7 st7 ff7 up7 tb7 => ?_
  refine came (base := TI.gone h1 fs) rfl st7 ff7 (by show 1 < 6; decide) tb7 fun h8 st8 ff8 up8 tb8 => ?_
  refine leave_held (base := TI.gone h1 fs) rfl st8 (fresh _ hn2) ff8 (by show 1 < 6; decide) rfl tb8 fun h9 fl9 up9 => ?_
  have htup := Heap.TupAt.of_slots (vs := [Value.str msg s.toks]) ⟨_, _, ht2, rfl, rfl⟩ (up7.trans (up8.trans up9))
  have hmm := k _ e2 t2 s.toks h9 (s.toks + 1) fl9 (fresh _ hnt2) htup (fun b o q hb => (TI.gone_get hb).trans q) (fun b o q => (TI.gone_some q).2) (up05.trans ((Heap.UpToSlots.of_keeps k6).trans (up7.trans (up8.trans up9))))
  exact hmm
end
end Mine
end
section
open PySem PySem.W PyProof.Rows
example (prog : Program) (w : World) (A : Around) (E : Value → Shared → Prop) (s : Shared) (Q : Value → Shared → Prop) (h : wpAny (model prog w) A (compareOp .Eq (.int 1 0) (.int 2 0)) Q E s) : wpAny (model prog w) A (compareOp .Eq (.int 1 0) (.int 2 0)) Q E s := by
  w_top off
  k_with_none
  first
    | (walk1; fail)
    | exact h
end
section
open PySem PySem.W PyProof.Rows PySem.Spec PySem.Calls
set_option Elab.async false
set_option autoImplicit false
set_option maxRecDepth 100000
set_option maxHeartbeats 8000000
set_option pp.deepTerms false
set_option pp.deepTerms.threshold 12
set_option pp.fieldNotation false
namespace Mine
example : (PySem.Challenge.rw_il0160_01 = PySem.Challenge.rw_il0160_01 ∧ hd.heap_39 = hd.heap_39) := by k_fill; exact ⟨rfl, rfl⟩
section
theorem decode_ok {w : World} {loose : List Str} {mean : ExcName → Option Value} {mg mb : Str → Option Value} {news : List (Addr × Obj)}
    {dp un : Nat} {gd : Option (List Code)} {cn : Str} {cs : Scope} {a₁ : Addr} {ccd : Value} {cl : List (Str × Addr)} {outer : List Env} {A₀ : Around} {base h₀ : Heap} {L : Addr} {m : Str → Option Value} {s : Shared} {Q E : Value → Shared → Prop} {S : Str} {t : Tok}
    (B : Below A₀ base outer h₀) (F : Fr h₀ L s.heap m) (X : (hd.heap_39 w.params).In h₀) (N : News h₀ L s.heap news) (T : Top hd.view_39 loose mean mg mb h₀) (hk : cs.kind = .function) (hdp : dp + 1 < recursionLimit) (hl : 2 ≤ S.length) (hs : S.length ≤ 16777216) (ha : isAsc S)
    (hret : ∀ (t : Tok) (h' : Heap) (tk' : Nat), Fr h₀ L h' m → News h₀ L h' news → Q (.bytes (enc S) t) { s with heap := h', toks := tk' }) :
    wpAny (model (RowW.prog (OpenRow.toRowW (OpenLaw.row PySem.Challenge.rw_il0160_01))) w) (ktrTop dp un gd cn cs L a₁ ccd cl outer) (call (.ref 66) [.str S t]) Q E s := by
  k_with_none
  k_with "getMethod str" => (k_here; with_reducible refine gm_encode ?_)
  k_with "call builtin:str.encode" => (k_here; k_dflt (refine enc_call_ok (by assumption) (by assumption) (by rw [sizeLine_eq]; assumption) ?_))
  refine wpAny_call ?_
  cell_enter
  k_steps
  exact hret _ _ _ (by assumption) (by assumption)
end
theorem decode_bad {w : World} {loose : List Str} {mean : ExcName → Option Value} {mg mb : Str → Option Value} {news : List (Addr × Obj)}
    {dp un : Nat} {gd : Option (List Code)} {cn : Str} {cs : Scope} {a₁ : Addr} {ccd : Value} {cl : List (Str × Addr)} {outer : List Env} {A₀ : Around} {base h₀ : Heap} {L : Addr} {m : Str → Option Value} {s : Shared} {Q E : Value → Shared → Prop} {P : Array Nat} {c : Nat} {t : Tok}
    (B : Below A₀ base outer h₀) (F : Fr h₀ L s.heap m) (X : (hd.heap_39 w.params).In h₀) (N : News h₀ L s.heap news) (T : Top hd.view_39 loose mean mg mb h₀) (hk : cs.kind = .function) (hdp : dp + 1 < recursionLimit) (hl : 1 ≤ P.size) (hs : P.size < 16777216) (ha : ∀ c ∈ P.toList, c < 128) (hc : 128 ≤ c)
    (hE : ∀ (b' : Heap) (e t : Addr) (u : Tok) (h' : Heap) (tk : Nat), Heap.FlyingW b' (envX cn cs L a₁ ccd cl :: outer) e (.type "ValueError") (.ref t) h' → b'.get? t = none → h'.TupAt t [.str msgS u] →
      (∀ b o, h₀.get? b = some o → b ∉ outer.filterMap (·.frame) → b'.get? b = some o) → (∀ p ∈ news, b'.get? p.1 = some p.2) → h'.Ns L m → h₀.UpToSlots h' → E (.ref e) { s with heap := h', toks := tk }) :
    wpAny (model (RowW.prog (OpenRow.toRowW (OpenLaw.row PySem.Challenge.rw_il0160_01))) w) (ktrTop dp un gd cn cs L a₁ ccd cl outer) (call (.ref 66) [.str ⟨P ++ #[c]⟩ t]) Q E s := by
  k_with_none
  k_with "getMethod str" => (k_here; with_reducible refine gm_encode ?_)
  refine wpAny_call ?_
  cell_enter
  k_steps
  refine enc_call_bad hl hs ha hc (by rfl) ?_
  intro h2 e1 tk2 hm1
  rename Fr h₀ L _ m => FG
  rename Below _ _ (_ :: _) _ => B1
  rename News _ _ _ _ => N1
  rename Fr _ _ _ _ => F1
  rename Frag.In _ _ => X1
  rename Top _ _ _ _ _ _ => T1
  refine bad_tail (A := ktrTop dp un gd cn cs L a₁ ccd cl outer) (l := envX cn cs L a₁ ccd cl :: outer) rfl rfl B1.frames F1 X1 T1 hm1 (by k_is) (by k_is) (by rfl) (by rfl) ?_
  intro b' e t' u h' tk fl hbt htup hk1 hk2 up
  have hLs : ∀ p ∈ news, p.1 ≠ L := fun p hp => (N p hp).2.1
  refine hE b' e t' u h' tk fl hbt htup (fun b o q hn => hk1 b o (F1.keep _ _ (FG.keep _ _ q)) ?_) (fun p hp => hk1 _ _ (N1 p hp).1 ?_) ?_ (fun b o q hf => up b o (F1.keep _ _ (FG.keep _ _ q)) hf)
  · intro hm
    rcases List.mem_cons.mp hm with e9 | hm
    · exact absurd (Nat.lt_of_lt_of_le (Heap.lt_size (FG.keep _ _ q)) F1.above) (by rw [e9]; exact Nat.lt_irrefl _)
    rcases List.mem_cons.mp hm with e9 | hm
    · have e9' : b = L := e9
      exact absurd (Nat.lt_of_lt_of_le (Heap.lt_size q) FG.above) (by rw [e9']; exact Nat.lt_irrefl _)
    · exact hn hm
  · intro hm
    rcases List.mem_cons.mp hm with e9 | hm
    · exact (N1 p hp).2.1 e9
    rcases List.mem_cons.mp hm with e9 | hm
    · exact hLs p hp e9
    · obtain ⟨_, o, ho, _⟩ := B1.frames.2.2.mem hm
      rw [(N1 p hp).2.2] at ho; cases ho
  · exact up.ns (FG.ns.at' fun o e9 => F1.keep _ _ e9)
end Mine
end
section
open PySem PySem.W PyProof.Rows
example (prog : Program) (w : World) (A : Around) (E : Value → Shared → Prop) (s : Shared) (Q : Value → Shared → Prop) (h : wpAny (model prog w) A (compareOp .Eq (.int 1 0) (.int 2 0)) Q E s) : wpAny (model prog w) A (compareOp .Eq (.int 1 0) (.int 2 0)) Q E s := by
  w_top off
  k_with_none
  first
    | (walk1; fail)
    | exact h
end
section
open PySem PySem.W PyProof.Rows PySem.Spec PySem.Calls
set_option Elab.async false
set_option autoImplicit false
set_option maxRecDepth 100000
set_option maxHeartbeats 1000000
namespace Mine
section
variable {prog : Program} {w : World} {A : Around} {E : Value → Shared → Prop} {s : Shared}
theorem ve_isExc : isSubtype (.type "ValueError") (.type "BaseException") = pure true := by rw [isSubtype_type]; kernel_rfl
theorem ve_notTup : isSubtype (.type ((Manifest.find? "ValueError").elim "type" fun x => x.metatype)) (.type "tuple") = pure false := isSubtype_of_subB (by decide +kernel)
theorem ve_sub : isSubtype (.type "ValueError") (.type "ValueError") = pure true := by rw [isSubtype_type]; kernel_rfl
theorem caught {nm : Str} {sc : Scope} {L1 a e t : Addr} {cd : Value} {l : List Env} {b' : Heap} {m mg mb : Str → Option Value} {np pos : Pos} {n : Str} {b₀ : Stmt} {suite : List Stmt} {rest : List ExceptHandler} {vs : List Value} {Q : Flow → Shared → Prop}
    (hA : A.frames = some l) (hk : sc.kind = .function) (fl : Heap.FlyingW b' (envOf nm sc L1 a cd :: l) e (.type "ValueError") (.ref t) s.heap) (htup : s.heap.TupAt t vs) (hNs : s.heap.Ns L1 m)
    (hg : s.heap.Ns mainGlobals mg) (hb : s.heap.Ns builtinsNs mb) (hmg : mg "ValueError" = none) (hmb : mb "ValueError" = some (.type "ValueError"))
    (u1 : (envOf nm sc L1 a cd).kindOf "ValueError" = some .globalImplicit) (hl : (envOf nm sc L1 a cd).kindOf n = some .local)
    (k : ∀ h' tk (E' : Value → Shared → Prop), b'.StaysIn h' → h'.Ns L1 (fun y => if y = n then some (.ref e) else m y) → (∀ b o, b ≠ L1 → s.heap.get? b = some o → (∀ vs, o.data ≠ .fields vs) → ∃ sl, h'.get? b = some { o with slots := sl }) →
      (∃ oe ws, h'.get? e = some oe ∧ oe.cls = .type "ValueError" ∧ oe.data = .fields ws ∧ ws[0]? = some (.ref t)) → h'.TupAt t vs → b'.get? e = none → b'.get? L1 = none → 
      wpAny (model prog w) ((A.deeper (envOf nm sc L1 a cd)).mark (some (.ref e))) (execs (b₀ :: suite) (envOf nm sc L1 a cd))
        (fun f s₄ => wpAny (model prog w) (A.deeper (envOf nm sc L1 a cd)) (do bindName (envOf nm sc L1 a cd) n .none; unbindBehindTheSuite (envOf nm sc L1 a cd) n pos) (fun _ s₅ => Q f s₅) E s₄) E' { s with heap := h', toks := tk }) :
    wpAny (model prog w) (A.deeper (envOf nm sc L1 a cd)) (noteFrame (.ref e) (envOf nm sc L1 a cd)) (fun _ s₂ => wpAny (model prog w) (A.deeper (envOf nm sc L1 a cd)) (setFlight (.ref e) none) (fun _ s₃ =>
      wpAny (model prog w) (A.deeper (envOf nm sc L1 a cd)) (handleBy (.ref e) (envOf nm sc L1 a cd) (.ExceptHandler (some (.Name "ValueError" np)) (some n) (b₀ :: suite) pos :: rest)) Q E s₃) E s₂) E s := by
  have hAf := Around.frames_deeper (env := envOf nm sc L1 a cd) hA
  have hL : b'.get? L1 = none := by
    obtain ⟨_, ⟨L', _, hf, hn', _⟩, _⟩ := fl.2.2.1
    obtain rfl : L1 = L' := Option.some.inj hf
    exact hn'
  refine wpAny_looks_onW hAf rfl fl fun h₄ hheld₄ up4 => ?_
  refine wpAny_landsW hheld₄ fun h₅ fl5 up5 => ?_
  refine wpAny_handleBy_builtin_as (X := "ValueError") (T := "ValueError") (b := true) ve_isExc ve_notTup ve_sub ?_
  have up05 := up4.trans up5
  refine Name_function_global hk u1 (loadGlobal_builtin (s := { s with heap := h₅ }) (env := envOf nm sc L1 a cd) (up05.ns hg) hmg (up05.ns hb) hmb ?_) (by decide)
  obtain ⟨ob, hob, hobc⟩ := fl5.there
  refine ⟨rfl, ⟨ob, hob, hobc⟩, ?_⟩
  rw [if_pos rfl]
  obtain ⟨st5, en5, ff5, tr5⟩ := fl5
  refine wpAny_setFlight_noneW (s := { s with heap := h₅ }) st5 ff5 tr5.at fun h₆ st6 ff6 tr6 k6 => ?_
  have up6 : h₅.UpToSlots h₆ := fun b o q hn => ⟨o.slots, k6 b o q hn⟩
  have up06 := up05.trans up6
  obtain ⟨oe, ws, _, _, _, he, ⟨hc, h0⟩, hd, _⟩ := tr6
  have hLe : L1 ≠ e := fun q => by
    obtain ⟨oL, es, ep, hL', hLd, _⟩ := up06.ns hNs
    rw [q, he] at hL'; cases hL'; rw [hd] at hLd; cases hLd
  have ht6 := htup.of_slots up06
  refine wpAny_storeName_local (s := { s with heap := h₆ }) hl (up06.ns hNs) (fun h₇ hn7 hs7 => ?_) (by simp [envOf, hk])
  refine k h₇ _ _ (fun b o q => hs7.extBut b o (fun e' => by have e'' : b = L1 := e'; rw [e'', hL] at q; cases q) (st6 b o q)) hn7 (fun b o hne q hf => ?_) ⟨oe, ws, hs7.extBut _ _ (Ne.symm hLe) he, hc, hd, h0⟩ ?_ en5 hL
  · obtain ⟨sl, e6⟩ := up06 b o q hf
    exact ⟨sl, hs7.extBut _ _ hne e6⟩
  · obtain ⟨o, nn, ho, hc', hd'⟩ := ht6
    refine ⟨o, nn, hs7.extBut _ _ (fun q => ?_) ho, hc', hd'⟩
    obtain ⟨oL, es, ep, hL', hLd, _⟩ := up06.ns hNs
    have hoL : oL = o := by
      have q' : t = L1 := q
      rw [← q', ho] at hL'; exact (Option.some.inj hL').symm
    rw [hoL, hd'] at hLd; cases hLd
end
end Mine
end
section
open PySem PySem.W PyProof.Rows
example (prog : Program) (w : World) (A : Around) (E : Value → Shared → Prop) (s : Shared) (Q : Value → Shared → Prop) (h : wpAny (model prog w) A (compareOp .Eq (.int 1 0) (.int 2 0)) Q E s) : wpAny (model prog w) A (compareOp .Eq (.int 1 0) (.int 2 0)) Q E s := by
  w_top off
  k_with_none
  first
    | (walk1; fail)
    | exact h
end
section
open PySem PySem.W PyProof.Rows PySem.Spec PySem.Calls
set_option Elab.async false
set_option autoImplicit false
set_option maxRecDepth 100000
set_option maxHeartbeats 1000000
namespace Mine
noncomputable def cut (h : Heap) (n : Nat) : Heap := { h with objs := h.objs.extract 0 n }
theorem cut_lt {h : Heap} {n : Nat} {b : Addr} (hb : b < n) : (cut h n).get? b = h.get? b := by
  have e : (h.objs.extract 0 n)[b]? = h.objs[b]? := by
    rw [Array.getElem?_extract]
    split
    · simp
    · rename_i q
      have hq : h.objs.size ≤ b := by
        rcases Nat.lt_or_ge b h.objs.size with z | z
        · exact absurd (by rw [Nat.sub_zero]; exact Nat.lt_min.mpr ⟨hb, z⟩) q
        · exact z
      exact (Array.getElem?_eq_none hq).symm
  cases q : h.get? b with
  | none =>
    cases q' : (cut h n).get? b with
    | none => rfl
    | some o =>
      obtain ⟨e1, e2⟩ := Heap.get?_some_iff.mp q'
      have e1' : (h.objs.extract 0 n)[b]? = some o := e1
      rw [e] at e1'
      rw [Heap.get?_some_iff.mpr ⟨e1', e2⟩] at q; cases q
  | some o =>
    obtain ⟨e1, e2⟩ := Heap.get?_some_iff.mp q
    exact Heap.get?_some_iff.mpr ⟨by show (h.objs.extract 0 n)[b]? = _; rw [e]; exact e1, e2⟩
theorem cut_some {h : Heap} {n : Nat} {b : Addr} {o : Obj} (q : (cut h n).get? b = some o) : b < n ∧ h.get? b = some o := by
  have hb : b < n := by
    have := Heap.lt_size q
    have z : (h.objs.extract 0 n).size ≤ n := by simp; omega
    exact Nat.lt_of_lt_of_le this z
  exact ⟨hb, (cut_lt hb).symm.trans q⟩
theorem cut_size (h : Heap) (n : Nat) : (cut h n).objs.size ≤ n := by
  show (h.objs.extract 0 n).size ≤ n
  simp; omega
section
variable {h₀ H h' : Heap} {L : Addr} {m m' : Str → Option Value} {news : List (Addr × Obj)}
theorem cut_keep (F : Fr h₀ L H m) : ∀ b o, h₀.get? b = some o → (cut H L).get? b = some o := fun b o q => by
  rw [cut_lt (Nat.lt_of_lt_of_le (Heap.lt_size q) F.above)]; exact F.keep b o q
theorem cut_fr (F : Fr h₀ L H m) : Fr (cut H L) L H m := ⟨F.ns, fun _ _ q => (cut_some q).2, cut_size H L⟩
noncomputable def after (L : Addr) (news : List (Addr × Obj)) : List (Addr × Obj) := news.filter fun p => decide (L < p.1)
theorem cut_news (N : News h₀ L H news) : News (cut H L) L H (after L news) := fun p hp => by
  obtain ⟨h1, h2⟩ := List.mem_filter.mp hp
  obtain ⟨n1, n2, n3⟩ := N p h1
  refine ⟨n1, n2, ?_⟩
  cases q : (cut H L).get? p.1 with
  | none => rfl
  | some o =>
    have := (cut_some q).1
    have h2' : L < p.1 := by simpa using h2
    exact absurd (Nat.lt_trans h2' this) (Nat.lt_irrefl _)
theorem uncut_fr (F : Fr h₀ L H m) (F' : Fr (cut H L) L h' m') : Fr h₀ L h' m' := ⟨F'.ns, fun b o q => F'.keep b o (cut_keep F b o q), F.above⟩
theorem uncut_news (N : News h₀ L H news) (F' : Fr (cut H L) L h' m') (N' : News (cut H L) L h' (after L news)) : News h₀ L h' news := fun p hp => by
  obtain ⟨n1, n2, n3⟩ := N p hp
  refine ⟨?_, n2, n3⟩
  rcases Nat.lt_trichotomy p.1 L with q | q | q
  · exact F'.keep _ _ ((cut_lt q).trans n1)
  · exact absurd q n2
  · exact (N' p (List.mem_filter.mpr ⟨hp, by simpa using q⟩)).1
theorem cut_below {L0 a0 : Addr} {m0 : Str → Option Value} {oL : Obj} {sl : Array (Option Value)} {cn : Str} {cs : Scope} {cd : Value} (F : Fr h₀ L H m) (N : News h₀ L H news) (C : TI.Caller h₀ L0 m0 oL) (hm : (L0, ({ oL with slots := sl } : Obj)) ∈ news) (hlt : L0 < L) (hk : cs.kind = .function) :
    Below { callerA with frames := some [envOf cn cs L0 a0 cd] } h₀ [envOf cn cs L0 a0 cd] (cut H L) := by
  refine ⟨rfl, cut_keep F, ?_⟩
  have e := (N _ hm).1
  refine Heap.FunFrames.cons (by show cs.kind ≠ .module; rw [hk]; decide) rfl (C.ns (cut H L) sl ((cut_lt hlt).trans e)) (N _ hm).2.2 trivial
end
end Mine
end
section
open PySem PySem.W PyProof.Rows
example (prog : Program) (w : World) (A : Around) (E : Value → Shared → Prop) (s : Shared) (Q : Value → Shared → Prop) (h : wpAny (model prog w) A (compareOp .Eq (.int 1 0) (.int 2 0)) Q E s) : wpAny (model prog w) A (compareOp .Eq (.int 1 0) (.int 2 0)) Q E s := by
  w_top off
  k_with_none
  first
    | (walk1; fail)
    | exact h
end
section
open PySem PySem.W PyProof.Rows PySem.Spec PySem.Calls
set_option Elab.async false
set_option autoImplicit false
set_option maxRecDepth 100000
set_option maxHeartbeats 8000000
namespace Mine
section
variable {w : World} {loose : List Str} {mean : ExcName → Option Value} {mg mb : Str → Option Value} {news : List (Addr × Obj)}
    {dp un : Nat} {gd : Option (List Code)} {cn : Str} {cs : Scope} {a₁ : Addr} {ccd : Value} {cl : List (Str × Addr)} {h₀ : Heap} {L : Addr} {m : Str → Option Value} {s : Shared} {Q E : Value → Shared → Prop}
    {L0 a0 : Addr} {m0 : Str → Option Value} {oL : Obj} {sl : Array (Option Value)} {cn0 : Str} {cs0 : Scope} {cd0 : Value}
theorem filemode_led {f : Int} {t1 : Tok} (F : Fr h₀ L s.heap m) (X : (hd.heap_39 w.params).In h₀) (N : News h₀ L s.heap news) (T : Top hd.view_39 loose mean mg mb h₀) (hk : cs.kind = .function)
    (C : TI.Caller h₀ L0 m0 oL) (hm : (L0, ({ oL with slots := sl } : Obj)) ∈ news) (hlt : L0 < L) (hk0 : cs0.kind = .function) (hdp : dp + 2 < recursionLimit)
    (hret : ∀ (t : Tok) (h' : Heap) (tk' : Nat) (S : Str), S = modeS f → S.length = 10 → Fr h₀ L h' m → News h₀ L h' news → Q (.str S t) { s with heap := h', toks := tk' }) :
    wpAny (model (RowW.prog (OpenRow.toRowW (OpenLaw.row PySem.Challenge.rw_il0160_01))) w) (ktrTop dp un gd cn cs L a₁ ccd cl [envOf cn0 cs0 L0 a0 cd0]) (call (.ref 113) [.int f t1]) Q E s :=
  filemode_call (cut_below F N C hm hlt hk0) (cut_fr F) (X.keeps (cut_keep F)) (cut_news N) (T.keeps (cut_keep F)) hk hdp (fun t h' tk' S e l F' N' => hret t h' tk' S e l (uncut_fr F F') (uncut_news N F' N'))
theorem decode_led_ok {S : Str} {t : Tok} (F : Fr h₀ L s.heap m) (X : (hd.heap_39 w.params).In h₀) (N : News h₀ L s.heap news) (T : Top hd.view_39 loose mean mg mb h₀) (hk : cs.kind = .function)
    (C : TI.Caller h₀ L0 m0 oL) (hm : (L0, ({ oL with slots := sl } : Obj)) ∈ news) (hlt : L0 < L) (hk0 : cs0.kind = .function) (hdp : dp + 1 < recursionLimit) (hl : 2 ≤ S.length) (hs : S.length ≤ 16777216) (ha : isAsc S)
    (hret : ∀ (t : Tok) (h' : Heap) (tk' : Nat), Fr h₀ L h' m → News h₀ L h' news → Q (.bytes (enc S) t) { s with heap := h', toks := tk' }) :
    wpAny (model (RowW.prog (OpenRow.toRowW (OpenLaw.row PySem.Challenge.rw_il0160_01))) w) (ktrTop dp un gd cn cs L a₁ ccd cl [envOf cn0 cs0 L0 a0 cd0]) (call (.ref 66) [.str S t]) Q E s :=
  decode_ok (cut_below F N C hm hlt hk0) (cut_fr F) (X.keeps (cut_keep F)) (cut_news N) (T.keeps (cut_keep F)) hk hdp hl hs ha (fun t h' tk' F' N' => hret t h' tk' (uncut_fr F F') (uncut_news N F' N'))
theorem decode_led_bad {P : Array Nat} {c : Nat} {t : Tok} (F : Fr h₀ L s.heap m) (X : (hd.heap_39 w.params).In h₀) (N : News h₀ L s.heap news) (T : Top hd.view_39 loose mean mg mb h₀) (hk : cs.kind = .function)
    (C : TI.Caller h₀ L0 m0 oL) (hm : (L0, ({ oL with slots := sl } : Obj)) ∈ news) (hlt : L0 < L) (hk0 : cs0.kind = .function) (hdp : dp + 1 < recursionLimit) (hl : 1 ≤ P.size) (hs : P.size < 16777216) (ha : ∀ c ∈ P.toList, c < 128) (hc : 128 ≤ c)
    (hE : ∀ (b' : Heap) (e t : Addr) (u : Tok) (h' : Heap) (tk : Nat), Heap.FlyingW b' [envX cn cs L a₁ ccd cl, envOf cn0 cs0 L0 a0 cd0] e (.type "ValueError") (.ref t) h' → b'.get? t = none → h'.TupAt t [.str msgS u] →
      (∀ b o, h₀.get? b = some o → b'.get? b = some o) → (∀ p ∈ news, p.1 ≠ L0 → b'.get? p.1 = some p.2) → h'.Ns L m → (∃ sl', h'.get? L0 = some { oL with slots := sl' }) → E (.ref e) { s with heap := h', toks := tk }) :
    wpAny (model (RowW.prog (OpenRow.toRowW (OpenLaw.row PySem.Challenge.rw_il0160_01))) w) (ktrTop dp un gd cn cs L a₁ ccd cl [envOf cn0 cs0 L0 a0 cd0]) (call (.ref 66) [.str ⟨P ++ #[c]⟩ t]) Q E s := by
  have h0n : h₀.get? L0 = none := (N _ hm).2.2
  refine decode_bad (cut_below F N C hm hlt hk0) (cut_fr F) (X.keeps (cut_keep F)) (cut_news N) (T.keeps (cut_keep F)) hk hdp hl hs ha hc fun b' e t u h' tk fl hbt htup k1 k2 hn up => ?_
  have notin : ∀ b, b ≠ L0 → b ∉ [envOf cn0 cs0 L0 a0 cd0].filterMap (·.frame) := fun b hb hm' => hb (List.mem_singleton.mp hm')
  refine hE b' e t u h' tk fl hbt htup (fun b o q => k1 b o (cut_keep F b o q) (notin b fun e' => by rw [e', h0n] at q; cases q)) (fun p hp hne => ?_) hn ?_
  · obtain ⟨n1, n2, n3⟩ := N p hp
    rcases Nat.lt_trichotomy p.1 L with q | q | q
    · exact k1 _ _ ((cut_lt q).trans n1) (notin _ hne)
    · exact absurd q n2
    · exact k2 p (List.mem_filter.mpr ⟨hp, by simpa using q⟩)
  · obtain ⟨es, ep, hd'⟩ := C.dict
    obtain ⟨sl', q⟩ := up L0 _ ((cut_lt hlt).trans (N _ hm).1) (fun vs q => by
      have q' : oL.data = .fields vs := q
      rw [hd'] at q'; cases q')
    exact ⟨sl', q⟩
end
end Mine
end
section
open PySem PySem.W PyProof.Rows
example (prog : Program) (w : World) (A : Around) (E : Value → Shared → Prop) (s : Shared) (Q : Value → Shared → Prop) (h : wpAny (model prog w) A (compareOp .Eq (.int 1 0) (.int 2 0)) Q E s) : wpAny (model prog w) A (compareOp .Eq (.int 1 0) (.int 2 0)) Q E s := by
  w_top off
  k_with_none
  first
    | (walk1; fail)
    | exact h
end
section
open PySem PySem.W PyProof.Rows PySem.Spec PySem.Calls
set_option Elab.async false
set_option autoImplicit false
set_option maxRecDepth 100000
namespace Mine
theorem pick_asc (f : Int) (i : Nat) : pickC f i < 128 := by
  unfold pickC
  split
  · rename_i p hp
    have hm := List.mem_of_find?_eq_some hp
    have hall : ∀ l ∈ TABS, ∀ q ∈ l, q.2 < 128 := by decide
    cases q : TABS[i]? with
    | none => rw [List.getD_eq_getElem?_getD, q] at hm; cases hm
    | some l =>
      rw [List.getD_eq_getElem?_getD, q] at hm
      exact hall l (List.mem_of_getElem? q) p hm
  · split <;> decide
theorem isAsc_mode (f : Int) : isAsc (modeS f) := by
  rw [modeS_eq]
  intro c hc
  simp only [List.mem_cons, List.not_mem_nil, or_false] at hc
  rcases hc with rfl | rfl | rfl | rfl | rfl | rfl | rfl | rfl | rfl | rfl <;> exact pick_asc _ _
noncomputable def lineM (p : Str × Int) : Str := modeS p.2 ++ Str.ofString " " ++ p.1
noncomputable def listRows (l : List (Str × Int)) : List (Array UInt8) := (l.filter asc).map fun p => enc (lineM p)
theorem lenM {S : Str} {f : Int} {c : Nat} (e : S = modeS f) : (S ++ Str.ofString " " ++ ⟨#[c]⟩).length = 12 := by
  subst e
  have h1 := modeS_len f
  have h2 : (Str.ofString " ").length = 1 := by decide
  simp only [Str.length, cps_app, Array.size_append] at *
  simp; omega
theorem ascM {S : Str} {f : Int} {c : Nat} (e : S = modeS f) (hc : c < 128) : isAsc (S ++ Str.ofString " " ++ ⟨#[c]⟩) := by
  subst e
  refine isAsc_app (isAsc_app (isAsc_mode f) ?_) (isAsc_one (by omega))
  unfold isAsc; decide
theorem badM {S : Str} {f : Int} (e : S = modeS f) : 1 ≤ (S.cps ++ (Str.ofString " ").cps).size ∧ (S.cps ++ (Str.ofString " ").cps).size < 16777216 ∧ ∀ c ∈ (S.cps ++ (Str.ofString " ").cps).toList, c < 128 := by
  subst e
  have h1 : (modeS f).cps.size = 10 := modeS_len f
  have h2 : (Str.ofString " ").cps.size = 1 := by decide
  refine ⟨by rw [Array.size_append]; omega, by rw [Array.size_append]; omega, ?_⟩
  have h3 : isAsc (modeS f ++ Str.ofString " ") := isAsc_app (isAsc_mode f) (by unfold isAsc; decide)
  exact h3
theorem lineM_eq (k : Str) (v : Int) : modeS v ++ Str.ofString " " ++ k = lineM (k, v) := rfl
theorem ownOff3 {rest : List (Addr × Obj)} {R1 R2 L : Addr} (h1 : L < R1 ∧ AllLt R1 rest) (h2 : R1 < R2 ∧ L < R2 ∧ AllLt R2 rest) (h3 : ∀ p ∈ rest, @Ne Nat p.1 L) : OwnOff rest [R1, R2, L] := by
  intro p hp b hb
  simp only [List.mem_cons, List.not_mem_nil, or_false] at hb
  rcases hb with rfl | rfl | rfl
  · exact Nat.ne_of_lt (kst_ltOf h1.2 p hp)
  · exact Nat.ne_of_lt (kst_ltOf h2.2.2 p hp)
  · exact h3 p hp
structure JL (c : List (Str × Int)) (R1 R2 L0 : Addr) (oL : Obj) (news : List (Addr × Obj)) (st : List Str) (m₀ : Str → Option Value) (i : Nat) (m₁ : Str → Option Value) (nx : List (Addr × Obj)) : Prop where
  out : ∃ (v1 v2 : List Value) (n1 n2 : Nat) (sl : Array (Option Value)) (rest : List (Addr × Obj)),
    nx = (R2, W.listOf v2.toArray n2) :: (R1, W.listOf v1.toArray n1) :: (L0, ({ oL with slots := sl } : Obj)) :: rest ∧
    (∀ p ∈ news, p ∈ rest) ∧ OwnOff rest [R1, R2, L0] ∧ BysAre v1 (listRows (c.take i)) ∧ RefsAre rest v2 (dueRef (c.take i)) ∧ ∀ z, st.contains z = false → m₁ z = m₀ z
end Mine
end
section
open PySem PySem.W PyProof.Rows
example (prog : Program) (w : World) (A : Around) (E : Value → Shared → Prop) (s : Shared) (Q : Value → Shared → Prop) (h : wpAny (model prog w) A (compareOp .Eq (.int 1 0) (.int 2 0)) Q E s) : wpAny (model prog w) A (compareOp .Eq (.int 1 0) (.int 2 0)) Q E s := by
  w_top off
  k_with_none
  first
    | (walk1; fail)
    | exact h
end
section
open PySem PySem.W PyProof.Rows PySem.Spec PySem.Calls
set_option Elab.async false
set_option autoImplicit false
set_option maxRecDepth 100000
namespace Mine
section
variable {c : List (Str × Int)} {R1 R2 L0 I d L : Addr} {oL oI od' : Obj} {sl : Array (Option Value)} {g h' : Heap} {news rest : List (Addr × Obj)} {st : List Str} {m₀ m' : Str → Option Value} {i n1 n2 k1 k2 : Nat} {k : Str} {v : Int} {v1 v2 : List Value} {s₁ : Shared} {tk : Nat} {Q : Flow → Shared → Prop}
theorem jl_ok {t : Tok} (F : Fr g L h' m') (N : News g L h' ((I, oI) :: (d, od') :: (R2, W.listOf v2.toArray n2) :: (R1, W.listOf (v1.toArray.push (.bytes (enc (lineM (k, v))) t)) k1) :: (L0, ({ oL with slots := sl } : Obj)) :: rest))
    (hsub : ∀ p ∈ news, p ∈ rest) (hoff : OwnOff rest [R1, R2, L0]) (h1 : BysAre v1 (listRows (c.take i))) (h2 : RefsAre rest v2 (dueRef (c.take i)))
    (hne : ∀ p ∈ (R2, W.listOf v2.toArray n2) :: (R1, W.listOf v1.toArray n1) :: (L0, ({ oL with slots := sl } : Obj)) :: rest, p.1 ≠ I) (hp : c[i]? = some (k, v)) (ha : asc (k, v) = true) (hm : ∀ z, st.contains z = false → m' z = m₀ z) :
    TurnPost g L [I] [(I, oI), (d, od')] (JL c R1 R2 L0 oL news st m₀ (i + 1)) s₁ Q .next { s₁ with heap := h', toks := tk } := by
  refine ⟨h', tk, m', _, rfl, F, N, ?_, ⟨v1 ++ [.bytes (enc (lineM (k, v))) t], v2, _, _, sl, rest, by rw [← List.push_toArray], hsub, hoff, ?_, ?_, hm⟩⟩
  · intro p hp' q
    have q' := List.mem_singleton.mp q
    rcases mo3 hp' with rfl | rfl | rfl | hp'
    · exact hne (R2, W.listOf v2.toArray n2) mi0 q'
    · exact hne (R1, W.listOf v1.toArray n1) mi1 q'
    · exact hne (L0, ({ oL with slots := sl } : Obj)) mi2 q'
    · exact hne p (mt3 hp') q'
  · rw [listRows, filt_yes hp ha]; exact h1.snoc _ _
  · rw [dueRef, filt_no hp (by rw [ha]; rfl)]; exact h2
theorem jl_bad {sl2 : Array (Option Value)} {T : Addr} {t u : Tok} {nT : Nat} (F : Fr g L h' m') (N : News g L h' ((T, pairObj k msgS t u nT) :: (I, oI) :: (d, od') :: (R2, W.listOf (v2.toArray.push (.ref T)) k2) :: (R1, W.listOf v1.toArray n1) :: (L0, ({ oL with slots := sl2 } : Obj)) :: rest))
    (hsub : ∀ p ∈ news, p ∈ rest) (hoff : OwnOff rest [R1, R2, L0]) (h1 : BysAre v1 (listRows (c.take i))) (h2 : RefsAre rest v2 (dueRef (c.take i)))
    (hne : ∀ p ∈ (R2, W.listOf v2.toArray n2) :: (R1, W.listOf v1.toArray n1) :: (L0, ({ oL with slots := sl } : Obj)) :: rest, p.1 ≠ I) (hp : c[i]? = some (k, v)) (ha : asc (k, v) = false)
    (hT : T ≠ I ∧ T ≠ R1 ∧ T ≠ R2 ∧ T ≠ L0) (hm : ∀ z, st.contains z = false → m' z = m₀ z) :
    TurnPost g L [I] [(I, oI), (d, od')] (JL c R1 R2 L0 oL news st m₀ (i + 1)) s₁ Q .next { s₁ with heap := h', toks := tk } := by
  obtain ⟨t0, t1, t2, t3⟩ := hT
  refine ⟨h', tk, m', (R2, W.listOf (v2.toArray.push (.ref T)) k2) :: (R1, W.listOf v1.toArray n1) :: (L0, ({ oL with slots := sl2 } : Obj)) :: (T, pairObj k msgS t u nT) :: rest, rfl, F, ?_, ?_, ⟨v1, v2 ++ [.ref T], _, _, sl2, (T, pairObj k msgS t u nT) :: rest, by rw [← List.push_toArray], fun p hp' => .tail _ (hsub p hp'), ?_, ?_, ?_, hm⟩⟩
  · intro p hp'
    refine N p ?_
    rcases mo6 hp' with rfl | rfl | rfl | rfl | rfl | rfl | hp'
    · exact mi1
    · exact mi2
    · exact mi3
    · exact mi4
    · exact mi5
    · exact mi0
    · exact .tail _ (mt5 hp')
  · intro p hp' q
    have q' := List.mem_singleton.mp q
    rcases mo4 hp' with rfl | rfl | rfl | rfl | hp'
    · exact hne (R2, W.listOf v2.toArray n2) mi0 q'
    · exact hne (R1, W.listOf v1.toArray n1) mi1 q'
    · exact hne (L0, ({ oL with slots := sl } : Obj)) mi2 q'
    · exact t0 q'
    · exact hne p (mt3 hp') q'
  · intro p hp' b hb
    rcases List.mem_cons.mp hp' with rfl | hp'
    · rcases mc3 hb with rfl | rfl | rfl
      · exact t1
      · exact t2
      · exact t3
    · exact hoff p hp' b hb
  · rw [listRows, filt_no hp ha]; exact h1
  · rw [dueRef, filt_yes hp (by rw [ha]; rfl)]
    exact (h2.mono fun p hp => .tail _ hp).snoc (.head _)
theorem after_caught {A1 A2 A3 A4 : Addr × Obj} {h₀ H b' h'' : Heap} {e t L1 : Addr} {sl2 : Array (Option Value)} {vs : List Value} {m'' : Str → Option Value}
    (N : News h₀ L1 H (A1 :: A2 :: A3 :: A4 :: (L0, ({ oL with slots := sl } : Obj)) :: rest)) (hne : ∀ p ∈ A1 :: A2 :: A3 :: A4 :: rest, p.1 ≠ L0)
    (k1 : ∀ b o, h₀.get? b = some o → b'.get? b = some o) (k2 : ∀ p ∈ A1 :: A2 :: A3 :: A4 :: (L0, ({ oL with slots := sl } : Obj)) :: rest, p.1 ≠ L0 → b'.get? p.1 = some p.2) (st : b'.StaysIn h'') (hL0 : h''.get? L0 = some { oL with slots := sl2 })
    (hed : ∃ oe ws, h''.get? e = some oe ∧ oe.cls = .type "ValueError" ∧ oe.data = .fields ws ∧ ws[0]? = some (.ref t)) (ht : h''.TupAt t vs) (hbe : b'.get? e = none) (hbt : b'.get? t = none) (hN : h''.Ns L1 m'') :
    ∃ oe ot, News h₀ L1 h'' ((e, oe) :: (t, ot) :: A1 :: A2 :: A3 :: A4 :: (L0, ({ oL with slots := sl2 } : Obj)) :: rest) ∧ Got ((e, oe) :: (t, ot) :: A1 :: A2 :: A3 :: A4 :: (L0, ({ oL with slots := sl2 } : Obj)) :: rest) e t (.type "ValueError") vs ∧
      (∀ p ∈ A1 :: A2 :: A3 :: A4 :: rest, @Ne Nat e p.1 ∧ @Ne Nat t p.1) := by
  obtain ⟨oe, ws, he, hc, hd, h0⟩ := hed
  obtain ⟨ot, nt, hto, htc, htd⟩ := ht
  obtain ⟨oN, es, ep, hLo, hLd, _⟩ := hN
  have none0 : ∀ b, b'.get? b = none → h₀.get? b = none := fun b q => TI.none_of k1 q
  have sub : ∀ p ∈ A1 :: A2 :: A3 :: A4 :: rest, p ∈ A1 :: A2 :: A3 :: A4 :: (L0, ({ oL with slots := sl } : Obj)) :: rest := by
    intro p hp
    rcases mo4 hp with rfl | rfl | rfl | rfl | hp
    · exact mi0
    · exact mi1
    · exact mi2
    · exact mi3
    · exact mt5 hp
  have inb : ∀ p ∈ A1 :: A2 :: A3 :: A4 :: rest, b'.get? p.1 = some p.2 := fun p hp => k2 p (sub p hp) (hne p hp)
  refine ⟨oe, ot, ?_, ⟨oe, ot, ws, nt, .head _, .tail _ (.head _), hc, hd, h0, htc, htd⟩, fun p hp => ⟨fun q => ?_, fun q => ?_⟩⟩
  · intro p hp
    have old : ∀ p ∈ A1 :: A2 :: A3 :: A4 :: rest, h''.get? p.1 = some p.2 ∧ p.1 ≠ L1 ∧ h₀.get? p.1 = none := fun p hp => ⟨st _ _ (inb p hp), (N p (sub p hp)).2⟩
    rcases List.mem_cons.mp hp with rfl | hp
    · exact ⟨he, fun q => (by have q' : e = L1 := q; rw [q', hLo] at he; cases he; rw [hLd] at hd; cases hd), none0 _ hbe⟩
    rcases List.mem_cons.mp hp with rfl | hp
    · exact ⟨hto, fun q => (by have q' : t = L1 := q; rw [q', hLo] at hto; cases hto; rw [hLd] at htd; cases htd), none0 _ hbt⟩
    rcases mo5 hp with rfl | rfl | rfl | rfl | rfl | hp
    · exact old _ mi0
    · exact old _ mi1
    · exact old _ mi2
    · exact old _ mi3
    · exact ⟨hL0, (N (L0, ({ oL with slots := sl } : Obj)) mi4).2⟩
    · exact old _ (mt4 hp)
  · have := inb p hp
    have q' : e = p.1 := q
    rw [← q', hbe] at this; cases this
  · have := inb p hp
    have q' : t = p.1 := q
    rw [← q', hbt] at this; cases this
theorem news_skip3 {h₀ h : Heap} {p q r : Addr × Obj} {l : List (Addr × Obj)} (N : News h₀ L h (p :: q :: r :: l)) : News h₀ L h (p :: l) := fun x hx => N x ((List.mem_cons.mp hx).elim (fun e => e ▸ .head _) fun e => .tail _ (.tail _ (.tail _ e)))
theorem tne2 {T e t : Addr} {r : List (Addr × Obj)} (h : e < T ∧ t < T ∧ I < T ∧ d < T ∧ R2 < T ∧ R1 < T ∧ L < T ∧ AllLt T r) : T ≠ I ∧ T ≠ R1 ∧ T ≠ R2 ∧ T ≠ L := by
  obtain ⟨_, _, a, _, b2, b1, b0, _⟩ := h
  exact ⟨Nat.ne_of_gt a, Nat.ne_of_gt b1, Nat.ne_of_gt b2, Nat.ne_of_gt b0⟩
theorem leave_listed {h₀ h : Heap} {L1 : Addr} {m m1 : Str → Option Value} {D : Addr} {oD o1 o2 : Obj} {P : Prop} (C : TI.Caller h₀ L0 m oL) (F : Fr h₀ L1 h m1) (N : News h₀ L1 h ((D, oD) :: (R2, o2) :: (R1, o1) :: (L0, ({ oL with slots := sl } : Obj)) :: rest))
    (hD : R2 < D ∧ R1 < D ∧ L0 < D ∧ AllLt D rest) (r1 : L0 < R1) (r2 : L0 < R2) (hoff : ∀ p ∈ rest, p.1 ≠ L0) (k : Fr h₀ L0 h m → News h₀ L0 h ((D, oD) :: (R2, o2) :: (R1, o1) :: rest) → P) : P := by
  have e0 := N (L0, ({ oL with slots := sl } : Obj)) mi3
  refine k ⟨C.ns h sl e0.1, F.keep, C.above⟩ fun p hp => ?_
  rcases mo3 hp with rfl | rfl | rfl | hp
  · have z := N (D, oD) mi0; exact ⟨z.1, Nat.ne_of_gt hD.2.2.1, z.2.2⟩
  · have z := N (R2, o2) mi1; exact ⟨z.1, Nat.ne_of_gt r2, z.2.2⟩
  · have z := N (R1, o1) mi2; exact ⟨z.1, Nat.ne_of_gt r1, z.2.2⟩
  · have z := N p (mt4 hp); exact ⟨z.1, hoff p hp, z.2.2⟩
end
end Mine
end
section
open PySem PySem.W PyProof.Rows
example (prog : Program) (w : World) (A : Around) (E : Value → Shared → Prop) (s : Shared) (Q : Value → Shared → Prop) (h : wpAny (model prog w) A (compareOp .Eq (.int 1 0) (.int 2 0)) Q E s) : wpAny (model prog w) A (compareOp .Eq (.int 1 0) (.int 2 0)) Q E s := by
  w_top off
  k_with_none
  first
    | (walk1; fail)
    | exact h
end
section
open PySem PySem.W PyProof.Rows PySem.Spec PySem.Calls
set_option Elab.async false
set_option autoImplicit false
set_option maxRecDepth 100000
set_option maxHeartbeats 8000000
set_option pp.deepTerms false
set_option pp.deepTerms.threshold 8
set_option pp.fieldNotation false
namespace Mine
example : (PySem.Challenge.rw_il0160_01 = PySem.Challenge.rw_il0160_01 ∧ hd.heap_39 = hd.heap_39) := by k_fill; exact ⟨rfl, rfl⟩
theorem listed_call {w : World} {loose : List Str} {mean : ExcName → Option Value} {mg mb : Str → Option Value} {news : List (Addr × Obj)}
    {dp un : Nat} {gd : Option (List Code)} {cn : Str} {cs : Scope} {a₁ : Addr} {ccd : Value} {h₀ : Heap} {L : Addr} {m : Str → Option Value} {s : Shared} {Q E : Value → Shared → Prop} {d : Addr} {od : Obj} {kv : List (Str × Value)} {c : List (Str × Int)}
    (F : Fr h₀ L s.heap m) (X : (hd.heap_39 w.params).In h₀) (N : News h₀ L s.heap news) (T : Top hd.view_39 loose mean mg mb h₀) (hk : cs.kind = .function) (hdp : dp + 4 < recursionLimit)
    (D1 : DF (RowW.prog (OpenRow.toRowW (OpenLaw.row PySem.Challenge.rw_il0160_01))) w news d od kv c) (hun : un + 8 < cLine)
    (hret : ∀ (D R1 R2 : Addr) (v1 v2 : List Value) (n1 n2 : Nat) (rest : List (Addr × Obj)) (h' : Heap) (tk' : Nat), Fr h₀ L h' m →
      News h₀ L h' ((D, { cls := .type "tuple", data := .seq #[.ref R1, .ref R2] }) :: (R2, W.listOf v2.toArray n2) :: (R1, W.listOf v1.toArray n1) :: rest) → (∀ p ∈ news, p ∈ rest) →
      BysAre v1 (listRows c) → RefsAre rest v2 (dueRef c) → Q (.ref D) { s with heap := h', toks := tk' }) :
    wpAny (model (RowW.prog (OpenRow.toRowW (OpenLaw.row PySem.Challenge.rw_il0160_01))) w) (ktrTop dp un gd cn cs L a₁ ccd [] []) (call (.ref 148) [.ref d]) Q E s := by
  k_with_none
  k_with "exec For Name Name cons nil" => (k_here; (rename Fr _ _ _ _ => lF'); (with_unfolding_all refine' for_loopF lF' ?_ (by intro _; rfl) (by passes_own)); k_whole)
  k_with "call ref" => (k_here; k_dflt (refine' filemode_led ?F ?X ?N ?T ?K ?C ?M ?lt ?K0 ?dp ?_; (case F => k_asm); (case X => k_asm); (case N => k_asm); (case T => k_asm); (case K => exact rfl); (case C => assumption); (case M => k_mem); (case lt => assumption); (case K0 => assumption); (case dp => ktr_room)); intro t9 h9 tk9 S9 eS9 lS9 F9 N9; (try dsimp only); (try k_fold))
  k_with "call ref" => (k_here; k_dflt (refine' decode_led_ok ?F ?X ?N ?T ?K ?C ?M ?lt ?K0 ?dp ?hl ?hs ?ha ?_; (case F => k_asm); (case X => k_asm); (case N => k_asm); (case T => k_asm); (case K => exact rfl); (case C => assumption); (case M => k_mem); (case lt => assumption); (case K0 => assumption); (case dp => ktr_room); (case hl => rw [lenM (by assumption)]; decide); (case hs => rw [lenM (by assumption)]; decide); (case ha => exact ascM (by assumption) (by assumption))); intro t8 h8 tk8 F8 N8; (rename _ = modeS _ => eS8); (rename kdpLook _ _ _ = _ => eL8); (rw [eS8, eL8, lineM_eq]); (try dsimp only); (try k_fold))
  refine wpAny_call ?_
  refine TLgL.code_def (cn := cn) (cs := cs) (L := L) (a := a₁) (ccd := ccd) F X N T (by rfl) (by k_is) (by k_is) (by show dp < _; omega) (by first | exact binds_K (by k_in) rfl (by k_is) rfl rfl rfl | exact BindsTo.of_eq rfl) (locs rfl) ?_ hk
  intro oL h1 C0 Fs hne F1 N1
  try dsimp only
  have hlt : L < s.heap.objs.size := F.ns.lt
  generalize s.heap.objs.size = L1 at *
  clear F N
  replace N1 : News h₀ L1 h1 ((L, ({ oL with slots := oL.slots } : Obj)) :: news) := fun p hp => N1 p (by
    rcases List.mem_cons.mp hp with rfl | hp
    · exact List.mem_append_right _ (.head _)
    · exact List.mem_append_left _ hp)
  have kMk := kstMark
  have hnL : ∀ p ∈ news, @Ne Nat p.1 L := hne
  k_steps
  rename (_ < _ ∧ AllLt _ _) => q1
  rename (_ < _ ∧ _ < _ ∧ AllLt _ _) => q2
  have r1 := q1.1
  have r2 := q2.2.1
  rename Fr _ _ _ _ => F0
  rename News _ _ _ _ => N0
  refine loopE_dict (JL c _ _ L oL news [Str.ofString "name", Str.ofString "error"] _) rfl D1.lo D1.dict D1.flat F0 (news_tail N0) (.tail _ (.tail _ (.tail _ D1.mem)))
    ⟨[], [], 0, 0, oL.slots, news, rfl, fun _ h9 => h9, ownOff3 q1 q2 hnL, .nil, .nil, fun _ _ => rfl⟩ ?_ ?_
  · rintro i ⟨k, v⟩ t m₁ nx h tk I oI od' hp hd' ⟨⟨v1, v2, n1, n2, sl, rest, rfl, hsub, hoff, h1, h2, hm⟩⟩ hne9 hlt9 F1 N1
    replace F1 := fr_stored _ hm F1
    clear F0 N0
    have hi10 : i < 10 := Nat.lt_of_lt_of_le (List.getElem?_eq_some_iff.mp hp).1 D1.short
    obtain ⟨ch, rfl, hch⟩ := D1.names _ (List.mem_of_getElem? hp)
    have e1 := lt_nat (hlt9 _ (.head _)); have e2 := lt_nat (hlt9 _ (.tail _ (.head _))); have e3 := lt_nat (hlt9 _ (.tail _ (.tail _ (.head _))))
    have hdr := hoff _ (hsub _ D1.mem)
    have f1 := ne_nat (hdr _ (.head _)); have f2 := ne_nat (hdr _ (.tail _ (.head _))); have f3 := ne_nat (hdr _ (.tail _ (.tail _ (.head _))))
    dsimp only at e1 e2 e3 f1 f2 f3
    have hlo := D1.lo
    have hfl := D1.flat
    have z1 := small_map h1.length hi10; have z2 := small_map h2.length hi10
    have hHas := has_at hp
    have hLook := look_at D1.nod hp
    dsimp only at F1 N1 ⊢
    rcases Nat.lt_or_ge ch 128 with hca | hca
    · k_steps
      exact jl_ok (by assumption) (by assumption) hsub hoff h1 h2 hne9 hp (asc_one (by omega)) (by intro z hz; simp only [List.contains_cons, List.contains_nil, Bool.or_false, Bool.or_eq_false_iff, beq_eq_false_iff_ne, ne_eq] at hz; simp [hz])
    · k_steps
      rename _ = modeS _ => eS8
      rename Fr _ _ _ _ => F9
      rename News _ _ _ _ => N9
      obtain ⟨b1, b2, b3⟩ := badM eS8
      refine decode_led_bad F9 X N9 T rfl C0 (by k_mem) hlt hk (by ktr_room) b1 b2 b3 hca ?_
      intro b' e t6 u6 h6 tk6 fl hbt htup k1 k2 hn6 hL6
      obtain ⟨sl6, hL6⟩ := hL6
      have T6 := T.keeps (fun b o q => fl.1 b o (k1 b o q))
      refine caught (A := ktrTop dp un gd cn cs L a₁ ccd [] []) (l := [envOf cn cs L a₁ ccd]) rfl rfl fl htup hn6 T6.g T6.b (mg_none_of X T.g (by k_is)) ((T.builtins "ValueError" (by decide)).trans ve_boot) (by rfl) (by rfl) ?_
      intro h7 tk7 E7 st7 hn7 up7 he7 ht7 hbe hbL
      obtain ⟨es0, ep0, hd0⟩ := C0.dict
      obtain ⟨sl7, hL7⟩ := up7 L _ (Nat.ne_of_lt hlt) hL6 (fun vs q => by
        have q' : oL.data = .fields vs := q
        rw [hd0] at q'; cases q')
      obtain ⟨oe, ot, N7, G7, g7⟩ := after_caught N9 (by
        intro p hp'
        simp only [List.mem_cons] at hp'
        rcases hp' with rfl | rfl | rfl | rfl | hp'
        · exact Nat.ne_of_gt e3
        · exact f3
        · exact Nat.ne_of_gt r2
        · exact Nat.ne_of_gt r1
        · exact hoff p hp' _ (by simp)) k1 k2 st7 hL7 he7 ht7 hbe hbt hn7
      have F7 : Fr h₀ L1 h7 _ := ⟨hn7, fun b o q => st7 b o (k1 b o q), F9.above⟩
      simp only [List.forall_mem_cons] at g7
      obtain ⟨⟨a1, a2⟩, ⟨a3, a4⟩, ⟨a5, a6⟩, ⟨a7, a8⟩, a9⟩ := g7
      clear F9 N9 hn7 up7 he7 ht7 k1 k2 st7 fl htup hn6 T6 F1 N1
      dsimp only
      k_steps
      exact jl_bad (by assumption) (news_skip3 (by assumption)) hsub hoff h1 h2 hne9 hp (asc_not (by omega)) (tne2 (by assumption)) (by intro z hz; simp only [List.contains_cons, List.contains_nil, Bool.or_false, Bool.or_eq_false_iff, beq_eq_false_iff_ne, ne_eq] at hz; simp [hz])
  · rintro h tk m₁ nx F1 N1 ⟨⟨v1, v2, n1, n2, sl, rest, rfl, hsub, hoff, h1, h2, hm⟩⟩
    rw [List.take_length] at h1 h2
    replace F1 := fr_stored _ hm F1
    clear F0 N0
    k_steps
    exact leave_listed C0 (by assumption) (by assumption) (by assumption) r1 r2 (fun p hp => hoff p hp _ (by simp)) fun F9 N9 => hret _ _ _ _ _ _ _ _ _ _ F9 N9 hsub h1 h2
end Mine
end
section
open PySem PySem.W PyProof.Rows
example (prog : Program) (w : World) (A : Around) (E : Value → Shared → Prop) (s : Shared) (Q : Value → Shared → Prop) (h : wpAny (model prog w) A (compareOp .Eq (.int 1 0) (.int 2 0)) Q E s) : wpAny (model prog w) A (compareOp .Eq (.int 1 0) (.int 2 0)) Q E s := by
  w_top off
  k_with_none
  first
    | (walk1; fail)
    | exact h
end
section
open PySem PySem.W PyProof.Rows PySem.Spec PySem.Calls
set_option Elab.async false
set_option autoImplicit false
set_option maxRecDepth 100000
set_option maxHeartbeats 1000000
namespace Mine
section
variable {prog : Program} {w : World} {A : Around} {E : Value → Shared → Prop} {s : Shared}
theorem iter_list {a : Addr} {items : Array Value} {Q : Value → Shared → Prop} (hl : s.heap.IsList a items)
    (h : Q (.ref s.heap.objs.size) { s with heap := s.heap.push { cls := .type "list_iterator", data := .fields #[.ref a, .int 0 0] } }) : wpAny (model prog w) A (call (.builtin "iter") [.ref a]) Q E s := by
  refine call_function_entry (by decide +kernel) (by decide +kernel) kdk_entry_iter (kdk_args_iter _) ?_
  unfold Builtin.«iter»
  refine wpAny_bind (m := someArgs "iter" 1 2 _) (wpAny_of_eq (a := [Value.ref a]) (by first | rfl | kernel_rfl!) ?_)
  show wpAny _ _ (pyIter (.ref a) >>= _) _ _ _
  refine wpAny_bind (wpAny_pyIter_list hl ?_)
  exact wpAny_pure ⟨_, rfl, h⟩
theorem next_item {it l : Addr} {i : Nat} {items : Array Value} {x : Value} {Q : Value → Shared → Prop} (hit : s.heap.IsListIter it l i) (hl : s.heap.IsList l items) (hx : items[i]? = some x)
    (hQ : ∀ h', h'.IsListIter it l (i + 1) → Heap.SameBut it s.heap h' → Q x { s with heap := h' }) : wpAny (model prog w) A (call (.builtin "next") [.ref it]) Q E s := by
  obtain ⟨o, ho, hc, hd⟩ := id hit
  obtain ⟨ol, hol, _, nl, hdl⟩ := hl
  refine call_function_entry (by decide +kernel) (by decide +kernel) kdk_entry_next (kdk_args_next _) ?_
  unfold Builtin.«next»
  refine wpAny_bind (m := someArgs "next" 1 2 _) (wpAny_of_eq (a := [Value.ref it]) (by first | rfl | kernel_rfl!) ?_)
  dsimp only
  refine wpAny_bind (wpAny_specialOf (name := Str.ofString "__next__") hit.typeIs slot_listiter_next.lookup ?_)
  refine wpAny_ite_split (fun hab => absurd hab (by decide)) (fun _ => ?_)
  refine wpAny_bind (wpAny_callSpecial?_slot (name := Str.ofString "__next__") hit.typeIs slot_listiter_next
    (wpAny_call_entry slot_listiter_next hit.typeIs entry_listiter_next ?_ (args_listiter_next _)))
  show wpAny _ _ (field (.ref it) 0 >>= _) _ _ s
  refine wpAny_bind (wpAny_field ho hd (x := .ref l) rfl ?_)
  show wpAny _ _ (if (Value.ref l == Value.none) = true then _ else _) _ _ s
  rw [if_neg (show ¬ ((Value.ref l == Value.none) = true) from Bool.false_ne_true)]
  show wpAny _ _ (field (.ref it) 1 >>= _) _ _ s
  refine wpAny_bind (wpAny_field ho hd (x := .int i 0) rfl ?_)
  show wpAny _ _ (seqItems? (.ref l) >>= _) _ _ s
  refine wpAny_bind (wpAny_seqItems hol hdl ?_)
  simp only [Int.toNat_natCast, hx]
  refine wpAny_bind (wpAny_setField ho hd (by simp) (wpAny_pure ⟨x, rfl, wpAny_pure ⟨_, rfl, hQ _ ?_ (Heap.SameBut.update ..)⟩⟩))
  exact ⟨_, Heap.get?_update_self _ ho (Obj.isFreed_of_fields (Obj.data_mapFields hd _)), (Obj.cls_mapFields ..).trans hc, by
    rw [Obj.data_mapFields hd]; simp [rawInt]⟩
theorem next_end {it l : Addr} {i : Nat} {items : Array Value} {Q : Value → Shared → Prop} (hh : A.handled = none) (hit : s.heap.IsListIter it l i) (hl : s.heap.IsList l items) (hx : items[i]? = none)
    (hE : ∀ h₁ h' e, Heap.SameBut it s.heap h₁ → Heap.MadeExc h₁ h' e "StopIteration" [] → E (.ref e) { s with heap := h' }) : wpAny (model prog w) A (call (.builtin "next") [.ref it]) Q E s := by
  obtain ⟨o, ho, hc, hd⟩ := id hit
  obtain ⟨ol, hol, _, nl, hdl⟩ := hl
  refine call_function_entry (by decide +kernel) (by decide +kernel) kdk_entry_next (kdk_args_next _) ?_
  unfold Builtin.«next»
  refine wpAny_bind (m := someArgs "next" 1 2 _) (wpAny_of_eq (a := [Value.ref it]) (by first | rfl | kernel_rfl!) ?_)
  dsimp only
  refine wpAny_bind (wpAny_specialOf (name := Str.ofString "__next__") hit.typeIs slot_listiter_next.lookup ?_)
  refine wpAny_ite_split (fun hab => absurd hab (by decide)) (fun _ => ?_)
  refine wpAny_bind (wpAny_callSpecial?_slot (name := Str.ofString "__next__") hit.typeIs slot_listiter_next
    (wpAny_call_entry slot_listiter_next hit.typeIs entry_listiter_next ?_ (args_listiter_next _)))
  show wpAny _ _ (field (.ref it) 0 >>= _) _ _ s
  refine wpAny_bind (wpAny_field ho hd (x := .ref l) rfl ?_)
  show wpAny _ _ (if (Value.ref l == Value.none) = true then _ else _) _ _ s
  rw [if_neg (show ¬ ((Value.ref l == Value.none) = true) from Bool.false_ne_true)]
  show wpAny _ _ (field (.ref it) 1 >>= _) _ _ s
  refine wpAny_bind (wpAny_field ho hd (x := .int i 0) rfl ?_)
  show wpAny _ _ (seqItems? (.ref l) >>= _) _ _ s
  refine wpAny_bind (wpAny_seqItems hol hdl ?_)
  simp only [Int.toNat_natCast, hx]
  refine wpAny_bind (wpAny_rule (wpAny_bind (wpAny_setField ho hd (by simp) ?_)))
  show wpAny _ _ (newExc (.type "StopIteration") [] >>= _) _ _ _
  refine wpAny_bind ?_
  simp only [newExc, newTuple]
  refine wpAny_bind (wpAny_newObj_type ?_ (by size_fits))
  refine wpAny_bind (m := firstArgMember _ _) (wpAny_of_eq (a := Value.none) (by first | rfl | (simp only [firstArgMember]; rfl)) ?_)
  refine wpAny_newObj_type ?_ (by size_fits)
  simp only [raiseNew]
  refine wpAny_bind (wpAny_handled ?_)
  rw [show A.in1.in1.handled = none from hh]
  refine wpAny_bind (wpAny_pure (wpAny_throw ?_))
  refine hE _ _ _ (Heap.SameBut.update ..) ⟨fun b o q => Heap.get?_push_of_some _ (Heap.get?_push_of_some _ q), Heap.get?_none_of_le (by simp), _, Heap.get?_push_size _ rfl, Heap.get?_none_of_le (Nat.le_refl _), Heap.get?_push_of_some _ (Heap.get?_push_size _ rfl)⟩
end
end Mine
end
section
open PySem PySem.W PyProof.Rows
example (prog : Program) (w : World) (A : Around) (E : Value → Shared → Prop) (s : Shared) (Q : Value → Shared → Prop) (h : wpAny (model prog w) A (compareOp .Eq (.int 1 0) (.int 2 0)) Q E s) : wpAny (model prog w) A (compareOp .Eq (.int 1 0) (.int 2 0)) Q E s := by
  w_top off
  k_with_none
  first
    | (walk1; fail)
    | exact h
end
section
open PySem PySem.W PyProof.Rows PySem.Spec PySem.Calls
open Sem (wp)
set_option Elab.async false
set_option autoImplicit false
set_option maxRecDepth 100000
set_option maxHeartbeats 1000000
namespace Mine
open PySem.SeqAt (EqAt RcAt)
theorem eqAt_bytes {A : Around} {s : Shared} (a b : Array UInt8) (t u : Tok) : EqAt A s (.bytes a t) (.bytes b u) (decide (a = b)) := fun prog w E Q h => by
  refine eqBool_bytes ?_
  have e : decide (a.toList = b.toList) = decide (a = b) := by
    by_cases q : a = b
    · subst q; simp
    · have : ¬ a.toList = b.toList := fun z => q (by rw [← Array.toArray_toList (xs := a), z, Array.toArray_toList])
      simp [q, this]
  rw [e]; exact h
theorem eqAt_str {A : Around} {s : Shared} (a b : Str) (t u : Tok) : EqAt A s (.str a t) (.str b u) (decide (a = b)) := fun prog w E Q h => wpAny_eqBool_str h
abbrev mwObj (b : Addr) : Obj := { cls := .type "method-wrapper", data := .fields #[.builtin "list.__contains__", .ref b] }
theorem lk_list_contains : typeLookup (.type "list") "__contains__" = pure (some (.builtin "list.__contains__")) := PySem.F.slot_list_contains.lookup
theorem typeOf_list_contains : typeOf (.builtin "list.__contains__") = pure (.type "wrapper_descriptor") := by show builtinType _ = _; rw [builtinType_eq_fast]; kernel_rfl
theorem slot_wd_get : Slot "wrapper_descriptor" "__get__" "wrapper_descriptor.__get__" :=
  .of (owner := "wrapper_descriptor") (n := "__get__") (by rw [typeLookup_type, builtinLookup_eq_fast]; kernel_rfl) (by decide +kernel) (by decide +kernel) (by decide +kernel)
    (by first | exact .inl (by decide +kernel) | exact .inr (by decide +kernel)) (by rw [isSubtype_type]; kernel_rfl)
theorem lk_wd_set : typeLookup (.type "wrapper_descriptor") "__set__" = pure none := by rw [typeLookup_type, builtinLookup_eq_fast]; kernel_rfl
theorem lk_wd_delete : typeLookup (.type "wrapper_descriptor") "__delete__" = pure none := by rw [typeLookup_type, builtinLookup_eq_fast]; kernel_rfl
theorem entry_wd_get : entryFor table "wrapper_descriptor.__get__" = some Builtin.«wrapper_descriptor.__get__» := entryFor_of_tree (by kernel_rfl)
theorem args_wd_get (a b c : Value) : argsOk "wrapper_descriptor.__get__" ⟨[a, b, c], []⟩ := by unfold argsOk; kernel_rfl
theorem owner_contains : (".".intercalate ("list.__contains__".cutAt '.').dropLast) = "list" := by
  have e0 : "list.__contains__".cutAt '.' = ["list", "__contains__"] := by first | rfl | decide +kernel
  rw [e0]; decide +kernel
theorem sub_list_owner : isSubtype (.type "list") (.type (".".intercalate ("list.__contains__".cutAt '.').dropLast)) = pure true := by
  rw [owner_contains, isSubtype_type]; kernel_rfl
theorem check_contains (a b : Value) : checkBoundCall "list.__contains__" ⟨[a, b], []⟩ = pure () := by first | kernel_rfl | rfl
theorem quiet_contains (args : Args) : (Code.builtin "list.__contains__" args).quiet = true := Code.quiet_builtin _ (by decide +kernel)
section
variable {prog : Program} {w : World} {A : Around} {E : Value → Shared → Prop} {s : Shared}
theorem call_mw {x b : Addr} {o : Obj} {items : Array Value} {n : Nat} {v : Value} {Q : Value → Shared → Prop} (e : Value → Bool) (hx : s.heap.get? x = some (mwObj b)) (hb : s.heap.get? b = some (W.listOf items n))
    (he : ∀ y, y ∈ items → EqAt A.in1 s y v (e y)) (h : Q (.bool (items.any e)) s) : wpAny (model prog w) A (call (.ref x) [v]) Q E s := by
  refine wpAny_call (codeAny_of_tree ?_)
  show wpAny _ A.in1 (callAny (.ref x) ⟨[v], []⟩) _ _ s
  simp only [callAny]
  refine wpAny_bind (wpAny_load hx ?_)
  simp only [mwObj, show (Value.type "method-wrapper" == Value.type "method" || Value.type "method-wrapper" == Value.type "builtin_function_or_method" || Value.type "method-wrapper" == Value.type "method-wrapper") = true by decide, if_true]
  refine wpAny_ite_true rfl ?_
  refine wpAny_bind (wpAny_of_eq (a := ()) (check_contains _ _) ?_)
  refine wpAny_bind (wpAny_pure (wpAny_pure ?_))
  refine ⟨quiet_contains _, codeAny_builtin PySem.F.entry_list_contains ?_⟩
  rw [Around.under_plainId PySem.F.slot_list_contains.plain _]
  exact PySem.SeqAt.list_containsAt b items n none #[] v e prog w A _ s ⟨hb, he, h⟩
theorem attr_contains {b : Addr} {items : Array Value} {n : Nat} {Q : Value → Shared → Prop} (hx : s.heap.get? b = some (W.listOf items n))
    (h : ∀ tk, Q (.ref s.heap.objs.size) { s with heap := s.heap.push (mwObj b), toks := tk }) : wpAny (model prog w) A (getAttr (.ref b) "__contains__" true) Q E s := by
  obtain ⟨hp, g, d, t, os⟩ := s
  have hT : (⟨hp, g, d, t, os⟩ : Shared).TypeIs (.ref b) "list" := ⟨_, hx, rfl⟩
  have hT1 : (⟨hp, g, d, t + 1, os⟩ : Shared).TypeIs (.ref b) "list" := ⟨_, hx, rfl⟩
  have hT5 : (⟨hp, g, d, t + 1, os⟩ : Shared).TypeIs (.builtin "list.__contains__") "wrapper_descriptor" := typeOf_list_contains
  have f4 := lk_list_contains
  have f5 := typeOf_list_contains
  have f6 := slot_wd_get.lookup
  have f7 := lk_wd_set
  have f8 := lk_wd_delete
  have f2 := PySem.F.slot_list_getattribute.lookup
  have f3 := PySem.F.slot_list_getattribute.bind (.ref b)
  repeat (any_goals (first | assumption | wp_step))
  refine codeAny_call_builtin PySem.F.slot_list_getattribute.plain PySem.F.entry_list_ga (PySem.F.slot_list_getattribute.check _ _ _ _ _ _ _ _ hT1 (PySem.F.args_list_getattribute_2 _ _) ?_)
  repeat (any_goals (first | assumption | wp_step))
  have f9 := sub_list_owner
  refine codeAny_call_builtin slot_wd_get.plain entry_wd_get (slot_wd_get.check _ _ _ _ _ _ _ _ hT5 (args_wd_get _ _ _) ?_)
  repeat (any_goals (first | assumption | wp_step))
  exact h _
end
end Mine
end
section
open PySem PySem.W PyProof.Rows
example (prog : Program) (w : World) (A : Around) (E : Value → Shared → Prop) (s : Shared) (Q : Value → Shared → Prop) (h : wpAny (model prog w) A (compareOp .Eq (.int 1 0) (.int 2 0)) Q E s) : wpAny (model prog w) A (compareOp .Eq (.int 1 0) (.int 2 0)) Q E s := by
  w_top off
  k_with_none
  first
    | (walk1; fail)
    | exact h
end
section
open PySem PySem.W PyProof.Rows PySem.Spec PySem.Calls
set_option Elab.async false
set_option autoImplicit false
set_option maxRecDepth 100000
set_option maxHeartbeats 1000000
namespace Mine
open PySem.SeqAt (EqAt RcAt)
section
variable {prog : Program} {w : World} {A : Around} {E : Value → Shared → Prop} {s : Shared}
theorem while_true {env : Env} {body orelse : List Stmt} {kk : Nat} {cp pos : Pos} {Q : Flow → Shared → Prop} (J : Nat → Shared → Prop)
    (turn : ∀ k s, J k s → wpAny (model prog w) A (execs body env) (fun f s' => match f with
      | .next => ∃ m, m < k ∧ J m s'
      | .cont => ∃ m, m < k ∧ J m s'
      | .brk => Q .next s'
      | .ret v => Q (.ret v) s') E s) (n : Nat) (h : J n s) (hE : PassesOwn (model prog w) A env E := by passes_own) :
    wpAny (model prog w) A (exec (.While (.Constant (.bool true) kk cp) body orelse pos) env) Q E s := by
  refine wpAny_While (codeAny_whileLoop (R := fun r s' => match r with | .ok f => Q f s' | .error e => cameBackBy (model prog w) A env E e s') J (fun k s' hJ => ?_) n h)
  show wpAny _ A (do let v ← eval (.Constant (.bool true) kk cp) env; _) _ _ s'
  refine wpAny_bind (wpAny_of_eq (a := Value.bool true) rfl ?_)
  refine wpAny_bind (wpAny_standAt (wpAny_holding (wpAny_truthy_bool ?_)))
  rw [if_pos rfl]
  exact wpAny_mono (turn k s' hJ) (fun f s₃ h₃ => by cases f <;> exact h₃) hE
theorem callWith_mw {b : Addr} {pos : Pos} {u : Addr} {first : List Value} {env : Env} {e : Expr} {rest : List Expr} {Q : Value → Shared → Prop}
    (h : wpAny (model prog w) A (spliced (backTo pos (starEach (e :: rest) env))) (fun vs s₁ => s₁.heap.get? u = some (mwObj b) ∧ wpAny (model prog w) A (call (.ref u) (first ++ vs)) Q E s₁) E s)
    (he : starEach (e :: rest) env = (false, eval e env) :: starEach rest env := by rfl) (hplain : (backTo pos (starEach rest env)).any (·.1) = false := by rfl) :
    wpAny (model prog w) A (callWith pos (.ref u) first (backTo pos (starEach (e :: rest) env)) []) Q E s := by
  rw [he] at h ⊢
  unfold callWith
  refine wpAny_bind (wpAny_holding (wpAny_mono (evalArgs_plain (Q := fun x s₁ => x.kw = [] ∧ s₁.heap.get? u = some (mwObj b) ∧ wpAny (model prog w) A (call (.ref u) (first ++ x.pos) x.kw) Q E s₁) (wpAny_mono h (fun vs s₁ h₁ => ⟨rfl, h₁⟩) fun _ _ x => x)) (fun x s₁ h₁ => wpAny_bind (wpAny_standAt ?_)) fun _ _ x => x))
  obtain ⟨_, ho, hcall⟩ := h₁
  simp only [show (backTo pos ((false, eval e env) :: starEach rest env)).any (·.1) = false from (by show (false || (backTo pos (starEach rest env)).any (·.1)) = false; rw [hplain]; rfl), List.any_nil, Bool.or_false]
  refine wpAny_bind (m := keeperOf (.ref u)) ?_
  unfold keeperOf
  refine wpAny_bind (wpAny_load ho ?_)
  simp only [show (Value.type "method-wrapper" != Value.type "method") = true by decide, show (Value.type "method-wrapper" == Value.type "builtin_function_or_method" || Value.type "method-wrapper" == Value.type "method-wrapper") = true by decide, if_true]
  refine wpAny_pure ?_
  exact wpAny_bind (wpAny_mono hcall (fun r s₂ hr => wpAny_bind (wpAny_holding (wpAny_point (wpAny_pure hr)))) fun _ _ x => x)
noncomputable def StopHere (P : Prop) : Prop := P
theorem stopHere {P : Prop} (h : StopHere P) : P := h
noncomputable def LI (oi : Obj) (a : Addr) (i : Nat) : Prop := oi.cls = .type "list_iterator" ∧ oi.data = .fields #[.ref a, .int i 0]
abbrev ffObj (dx mw it : Addr) : Obj := { cls := .ref 47, dict := some dx, data := .plain, slots := #[some (.ref mw), some (.ref it)] }
noncomputable def hasB (cs : List (Array UInt8)) : Value → Bool
  | .bytes b _ => decide (b ∈ cs)
  | _ => false
noncomputable def eqB (b : Array UInt8) : Value → Bool
  | .bytes c _ => decide (c = b)
  | _ => false
theorem any_eqB {ws : List Value} {cs : List (Array UInt8)} (h : BysAre ws cs) (b : Array UInt8) (t : Tok) : ws.toArray.any (eqB b) = hasB cs (.bytes b t) := by
  show _ = decide (b ∈ cs)
  rw [List.any_toArray]
  induction h with
  | nil => simp
  | cons c u _ ih =>
    rw [List.any_cons, ih]
    by_cases q : c = b
    · subst q; simp [eqB]
    · have q' : ¬ b = c := fun z => q z.symm
      simp [eqB, q, q']
theorem eqAt_all {ws : List Value} {cs : List (Array UInt8)} (h : BysAre ws cs) (b : Array UInt8) (t : Tok) : ∀ y, y ∈ ws.toArray → EqAt A s y (.bytes b t) (eqB b y) := by
  intro y hy
  have hy' : y ∈ ws := by simpa using hy
  induction h with
  | nil => cases hy'
  | cons c u _ ih =>
    rcases List.mem_cons.mp hy' with rfl | hm
    · exact eqAt_bytes c b u t
    · exact ih (by simpa using hm) hm
theorem call_hasB {x b : Addr} {n : Nat} {ws : List Value} {cs : List (Array UInt8)} {v : Array UInt8} {t : Tok} {Q : Value → Shared → Prop} (hx : s.heap.get? x = some (mwObj b)) (hb : s.heap.get? b = some (W.listOf ws.toArray n)) (hw : BysAre ws cs)
    (h : Q (.bool (hasB cs (.bytes v t))) s) : wpAny (model prog w) A (call (.ref x) [.bytes v t]) Q E s :=
  call_mw (o := mwObj b) (eqB v) hx hb (eqAt_all hw v t) (by rw [any_eqB hw v t]; exact h)
end
end Mine
end
section
open PySem PySem.W PyProof.Rows
example (prog : Program) (w : World) (A : Around) (E : Value → Shared → Prop) (s : Shared) (Q : Value → Shared → Prop) (h : wpAny (model prog w) A (compareOp .Eq (.int 1 0) (.int 2 0)) Q E s) : wpAny (model prog w) A (compareOp .Eq (.int 1 0) (.int 2 0)) Q E s := by
  w_top off
  k_with_none
  first
    | (walk1; fail)
    | exact h
end
section
open PySem PySem.W PyProof.Rows PySem.Spec PySem.Calls
set_option Elab.async false
set_option autoImplicit false
set_option maxRecDepth 100000
set_option maxHeartbeats 1000000
namespace Mine
section
variable {M : Model} {A : Around} {E E₂ : Value → Shared → Prop} {s : Shared}
theorem stop_tail {nm : Str} {sc : Scope} {L3 a3 e : Addr} {cd3 : Value} {l : List Env} {base g h₁ : Heap} {mm : Str → Option Value} {X : String} {args : List Value}
    (hA : A.frames = some l) (hk : sc.kind = .function) (hff : g.FunFrames base l) (F : Fr g L3 h₁ mm) (hx : Heap.MadeExc h₁ s.heap e X args)
    (k : ∀ b' t h', Heap.FlyingW b' l e (.type X) (.ref t) h' → h'.TupAt t args → b'.get? t = none → (∀ b o, h₁.get? b = some o → b ∉ L3 :: l.filterMap (·.frame) → b'.get? b = some o) → (∀ b o, b'.get? b = some o → h₁.get? b = some o) →
      h₁.UpToSlots h' → E (.ref e) { s with heap := h' }) :
    wpAny M (A.deeper (envOf nm sc L3 a3 cd3)) (leaving (envOf nm sc L3 a3 cd3) (.ref e)) (fun _ s'' => E (.ref e) s'') E₂ s := by
  generalize hfs : L3 :: l.filterMap (·.frame) = fs at k
  have hkind : (envOf nm sc L3 a3 cd3).scope.kind ≠ .module := by
    show sc.kind ≠ .module
    rw [hk]; decide
  have hAf := Around.frames_deeper (env := envOf nm sc L3 a3 cd3) hA
  have st0 : (TI.gone h₁ fs).StaysIn h₁ := fun b o q => (TI.gone_some q).2
  have ff0 : h₁.FunFrames (TI.gone h₁ fs) (envOf nm sc L3 a3 cd3 :: l) := by
    obtain ⟨oL, es, ep, hL, hLd, _⟩ := F.ns
    exact ⟨hkind, ⟨L3, oL, rfl, TI.gone_none (by rw [← hfs]; exact .head _), hL, fun vs q => by rw [hLd] at q; cases q⟩,
      ff_of hff (fun b o q _ => ⟨o, F.keep b o q, rfl⟩) fun b hb => TI.gone_none (by rw [← hfs]; exact .tail _ hb)⟩
  refine wpAny_leaves_madeW hAf rfl st0 ff0 hx.of fun h' t fl tup hbt up => ?_
  exact k _ t h' fl tup hbt (fun b o q hb => (TI.gone_get hb).trans q) (fun b o q => (TI.gone_some q).2) ((Heap.UpToSlots.of_keeps hx.keeps).trans up)
end
end Mine
end
section
open PySem PySem.W PyProof.Rows
example (prog : Program) (w : World) (A : Around) (E : Value → Shared → Prop) (s : Shared) (Q : Value → Shared → Prop) (h : wpAny (model prog w) A (compareOp .Eq (.int 1 0) (.int 2 0)) Q E s) : wpAny (model prog w) A (compareOp .Eq (.int 1 0) (.int 2 0)) Q E s := by
  w_top off
  k_with_none
  first
    | (walk1; fail)
    | exact h
end
section
open PySem PySem.W PyProof.Rows PySem.Spec PySem.Calls
set_option Elab.async false
set_option autoImplicit false
set_option maxRecDepth 100000
set_option maxHeartbeats 8000000
set_option pp.deepTerms false
set_option pp.deepTerms.threshold 8
set_option pp.fieldNotation false
namespace Mine
example : (PySem.Challenge.rw_il0160_01 = PySem.Challenge.rw_il0160_01 ∧ hd.heap_39 = hd.heap_39) := by k_fill; exact ⟨rfl, rfl⟩
theorem iter_K {prog : Program} {w : World} {A : Around} {E : Value → Shared → Prop} {s : Shared} {h₀ : Heap} {L : Addr} {m : Str → Option Value} {news : List (Addr × Obj)} {a : Addr} {items : Array Value} {Q : Value → Shared → Prop} (F : Fr h₀ L s.heap m) (N : News h₀ L s.heap news) (hl : h₀.IsList a items)
    (h : ∀ I h', Fr h₀ L h' m → News h₀ L h' ((I, ({ cls := .type "list_iterator", data := .fields #[.ref a, .int 0 0] } : Obj)) :: news) → (∀ p ∈ news, p.1 < I) → Q (.ref I) { s with heap := h' }) : wpAny (model prog w) A (call (.builtin "iter") [.ref a]) Q E s :=
  iter_list (hl.at fun o e => F.keep _ _ e) (h _ _ (F.push _) (News.push F N _ rfl) (fun q hq => Heap.lt_size (N q hq).1))
theorem ff_new {w : World} {loose : List Str} {mean : ExcName → Option Value} {mg mb : Str → Option Value} {news : List (Addr × Obj)}
    {dp un : Nat} {gd : Option (List Code)} {cn : Str} {cs : Scope} {a₁ : Addr} {ccd : Value} {cl : List (Str × Addr)} {outer : List Env} {A₀ : Around} {base h₀ : Heap} {L : Addr} {m : Str → Option Value} {s : Shared} {Q E : Value → Shared → Prop} {a mw : Addr} {vs : List Value}
    (B : Below A₀ base outer h₀) (F : Fr h₀ L s.heap m) (X : (hd.heap_39 w.params).In h₀) (N : News h₀ L s.heap news) (T : Top hd.view_39 loose mean mg mb h₀) (hk : cs.kind = .function) (hdp : dp + 2 < recursionLimit) (ha : h₀.IsList a vs.toArray)
    (hret : ∀ (x dx it : Addr) (oi : Obj) (h' : Heap) (tk' : Nat), LI oi a 0 → (∀ p ∈ news, p.1 < dx) → dx < x → x < it → Fr h₀ L h' m → News h₀ L h' ((it, oi) :: (x, ffObj dx mw it) :: (dx, W.dictOf [] 0) :: news) → Q (.ref x) { s with heap := h', toks := tk' }) :
    wpAny (model (RowW.prog (OpenRow.toRowW (OpenLaw.row PySem.Challenge.rw_il0160_01))) w) (ktrTop dp un gd cn cs L a₁ ccd cl outer) (call (.ref 47) [.ref mw, .ref a]) Q E s := by
  k_with_none
  k_with "call builtin:iter" => (k_here; (with_reducible show wpAny _ _ (call (Value.builtin "iter") [Value.ref _]) _ _ _); k_dflt (refine' iter_K ?F ?N ?l ?_; (case F => k_asm); (case N => k_asm); (case l => assumption)); intro I' h' F' N' l1; (try k_lt l1); (try k_fold))
  refine call_cls F X N (by k_is) (by k_is) (by k_is) ?_
  intro x' d' h' F' N' l1 l2
  have kMk := kstMark
  have l3 : ∀ p ∈ news, p.1 < x' := fun p hp => Nat.lt_trans (l1 p hp) l2
  have n1 : @Ne Nat d' x' := Nat.ne_of_lt l2
  have n2 : ∀ p ∈ news, @Ne Nat p.1 x' := fun p hp => Nat.ne_of_lt (l3 p hp)
  cell_enter
  rename Fr h₀ L _ m => FG
  have ha' := ha.at fun o e => FG.keep _ _ e
  k_steps
  rename (_ < _ ∧ _ < _ ∧ AllLt _ _) => q1
  exact hret _ _ _ _ _ _ ⟨rfl, rfl⟩ l1 l2 q1.1 (by assumption) (by assumption)
noncomputable def JN (g : Heap) (L : Addr) (st : List Str) (m0 : Str → Option Value) (led : List (Addr × Obj)) (it a : Addr) (i : Nat) (vs : List Value) (cs0 : List (Array UInt8)) (s₀ : Shared) (k : Nat) (s' : Shared) : Prop :=
  ∃ h tk mm j oj, s' = { s₀ with heap := h, toks := tk } ∧ Fr g L h mm ∧ (∀ z, st.contains z = false → mm z = m0 z) ∧ News g L h ((it, oj) :: led) ∧ LI oj a j ∧ i ≤ j ∧ j ≤ vs.length ∧ k = vs.length - j ∧ (∀ q u, i ≤ q → q < j → vs[q]? = some u → hasB cs0 u = true)
theorem set_it {g h h' : Heap} {L it : Addr} {oi oi' : Obj} {led : List (Addr × Obj)} (N : News g L h ((it, oi) :: led)) (hne : ∀ p ∈ led, p.1 ≠ it) (hs : Heap.SameBut it h h') (ho : h'.get? it = some oi') : News g L h' ((it, oi') :: led) := fun p hp => by
  rcases List.mem_cons.mp hp with rfl | hp
  · exact ⟨ho, (N (it, oi) (.head _)).2⟩
  · have z := N p (.tail _ hp)
    exact ⟨hs.extBut _ _ (hne p hp) z.1, z.2⟩
theorem ff_next {w : World} {loose : List Str} {mean : ExcName → Option Value} {mg mb : Str → Option Value} {news : List (Addr × Obj)}
    {dp un : Nat} {gd : Option (List Code)} {cn : Str} {cs : Scope} {a₁ : Addr} {ccd : Value} {cl : List (Str × Addr)} {outer : List Env} {A₀ : Around} {base h₀ : Heap} {L : Addr} {m : Str → Option Value} {s : Shared} {Q E : Value → Shared → Prop} {x dx it a b mw : Addr} {vs ws : List Value} {bs cs0 : List (Array UInt8)} {nb i : Nat} {oi : Obj}
    (B : Below A₀ base outer h₀) (F : Fr h₀ L s.heap m) (X : (hd.heap_39 w.params).In h₀) (N : News h₀ L s.heap news) (T : Top hd.view_39 loose mean mg mb h₀) (hk : cs.kind = .function) (hdp : dp + 2 < recursionLimit) (ha : h₀.IsList a vs.toArray) (hb : h₀.get? b = some (W.listOf ws.toArray nb)) (hi : LI oi a i) (hvs : BysAre vs bs) (hws : BysAre ws cs0) (hiv : i ≤ vs.length)
    (NX : News h₀ L s.heap ((it, oi) :: (x, ffObj dx mw it) :: (dx, W.dictOf [] 0) :: (mw, mwObj b) :: news)) (hne : ∀ p ∈ (x, ffObj dx mw it) :: (dx, W.dictOf [] 0) :: (mw, mwObj b) :: news, p.1 ≠ it)
    (hret : ∀ (j : Nat) (v : Value) (oj : Obj) (h' : Heap) (tk' : Nat), i ≤ j → vs[j]? = some v → hasB cs0 v = false → (∀ q u, i ≤ q → q < j → vs[q]? = some u → hasB cs0 u = true) → LI oj a (j + 1) →
      Fr h₀ L h' m → News h₀ L h' ((it, oj) :: (x, ffObj dx mw it) :: (dx, W.dictOf [] 0) :: (mw, mwObj b) :: news) → Q v { s with heap := h', toks := tk' })
    (hE : ∀ (b' : Heap) (e t : Addr) (h' : Heap) (tk : Nat), (∀ q u, i ≤ q → vs[q]? = some u → hasB cs0 u = true) → Heap.FlyingW b' (envX cn cs L a₁ ccd cl :: outer) e (.type "StopIteration") (.ref t) h' →
      (∀ b o, h₀.get? b = some o → b ∉ outer.filterMap (·.frame) → b'.get? b = some o) → (∀ p ∈ (x, ffObj dx mw it) :: (dx, W.dictOf [] 0) :: (mw, mwObj b) :: news, b'.get? p.1 = some p.2) → h'.Ns L m → h₀.UpToSlots h' → E (.ref e) { s with heap := h', toks := tk }) :
    wpAny (model (RowW.prog (OpenRow.toRowW (OpenLaw.row PySem.Challenge.rw_il0160_01))) w) (ktrTop dp un gd cn cs L a₁ ccd cl outer) (call (.ref 43) [.ref x]) Q E s := by
  k_with_none
  k_with "call builtin:iter" => (k_here; (with_reducible show wpAny _ _ (call (Value.builtin "iter") [Value.ref _]) _ _ _); k_dflt (refine' iter_K ?F ?N ?l ?_; (case F => k_asm); (case N => k_asm); (case l => assumption)); intro I' h' F' N' l1; (try k_lt l1); (try k_fold))
  k_with "exec" => (k_here; (with_reducible show wpAny _ _ (exec (Stmt.While _ _ _ _) _) _ _ _); refine stopHere ?_)
  clear N
  refine wpAny_call ?_
  cell_enter
  k_steps
  rename Fr h₀ L _ m => FG
  rename Fr _ _ _ _ => F1
  rename News _ _ _ _ => N1
  have ha1 := ha.at fun o e => FG.keep _ _ e
  have hb1 := FG.keep _ _ hb
  dsimp only [StopHere]
  refine while_true (JN _ _ [Str.ofString "item"] _ _ it a i vs cs0 s) ?_ (vs.length - i) ⟨_, _, _, i, oi, rfl, F1, fun _ _ => rfl, N1, hi, Nat.le_refl _, hiv, rfl, fun q u h1 h2 => absurd h2 (Nat.not_lt.mpr h1)⟩
  rintro k s' ⟨h, tk, mm, j, oj, rfl, F2, hm, N2, hj, hij, hjl, hk', hsk⟩
  replace F2 := fr_stored _ hm F2
  clear F1 N1
  k_steps
  rename Fr _ _ _ _ => F3
  rename News _ _ _ _ => N3
  have hl3 := ha1.at fun o e => F3.keep _ _ e
  rcases Nat.lt_or_ge j vs.length with hlt | hge
  · obtain ⟨bb, hbb, tt, htt⟩ := hvs.are.get j (vs[j]) (by simp [hlt])
    have hxj : vs[j]? = some (.bytes bb tt) := by rw [List.getElem?_eq_getElem hlt, htt]
    refine next_item (x := .bytes bb tt) ⟨oj, (N3 _ (.head _)).1, hj.1, hj.2⟩ hl3 (by simpa using hxj) fun h' hit' hs' => ?_
    obtain ⟨oj', ho', hc', hd'⟩ := hit'
    have F4 := F3.change hs' (N3 _ (.head _)).2.1 (N3 _ (.head _)).2.2
    have N4 := set_it N3 hne hs' ho'
    have hj' : LI oj' a (j + 1) := ⟨hc', hd'⟩
    clear F3 N3 hl3
    dsimp only
    k_steps
    refine callWith_mw (b := b) ?_
    k_steps
    rename Fr _ _ _ _ => F5
    rename News _ _ _ _ => N5
    · exact (N5 (mw, mwObj b) (by simp)).1
    · rename Fr _ _ _ _ => F5
      rename News _ _ _ _ => N5
      refine call_hasB (N5 (mw, mwObj b) (by simp)).1 (F5.keep _ _ hb1) hws ?_
      cases hq : hasB cs0 (.bytes bb tt) with
      | true =>
        k_steps
        any_goals exact (vs.length - (j + 1))
        · omega
        refine ⟨_, _, _, j + 1, oj', rfl, by assumption, ?hmm, by assumption, hj', by omega, by omega, rfl, ?hsk⟩
        case hmm =>
          intro z hz
          have hz' : ¬ z = Str.ofString "item" := fun q => by rw [q] at hz; exact absurd hz (by decide)
          dsimp only
          rw [if_neg hz', if_neg (by rw [hz]; decide)]
        case hsk =>
          intro q u h1 h2 h3
          rcases Nat.lt_or_ge q j with h4 | h4
          · exact hsk q u h1 h4 h3
          · have h5 : q = j := by omega
            rw [h5, hxj] at h3
            cases h3; exact hq
      | false =>
        k_steps
        exact hret j _ oj' _ _ hij hxj hq hsk hj' (by assumption) (by assumption)
  · have hjn : j = vs.length := Nat.le_antisymm hjl hge
    refine next_end (by rfl) ⟨oj, (N3 _ (.head _)).1, hj.1, hj.2⟩ hl3 (i := j) (by simp [hjn]) fun h₁ h' e hs₁ hx => ?_
    have F5 := F3.change hs₁ (N3 _ (.head _)).2.1 (N3 _ (.head _)).2.2
    rename Below _ _ (_ :: _) _ => B1
    refine stop_tail (A := ktrTop dp un gd cn cs L a₁ ccd cl outer) (l := envX cn cs L a₁ ccd cl :: outer) rfl rfl B1.frames F5 hx fun b' t h'' fl tup hbt hk1 hk2 up => ?_
    refine hE b' e t h'' _ (fun q u h1 h2 => hsk q u h1 (by rw [hjn]; exact (List.getElem?_eq_some_iff.mp h2).1) h2) fl (fun b o q hn => hk1 b o (F5.keep _ _ (FG.keep _ _ q)) ?_) (fun p hp => hk1 _ _ (hs₁.extBut _ _ (hne p hp) (N3 p (.tail _ hp)).1) ?_) ?_ (fun b o q hf => up b o (F5.keep _ _ (FG.keep _ _ q)) hf)
    · intro hm9
      rcases List.mem_cons.mp hm9 with e9 | hm9
      · exact absurd (Nat.lt_of_lt_of_le (Heap.lt_size (FG.keep _ _ q)) F5.above) (by rw [e9]; exact Nat.lt_irrefl _)
      rcases List.mem_cons.mp hm9 with e9 | hm9
      · have e9' : b = L := e9
        exact absurd (Nat.lt_of_lt_of_le (Heap.lt_size q) FG.above) (by rw [e9']; exact Nat.lt_irrefl _)
      · exact hn hm9
    · intro hm9
      rcases List.mem_cons.mp hm9 with e9 | hm9
      · exact (N3 p (.tail _ hp)).2.1 e9
      rcases List.mem_cons.mp hm9 with e9 | hm9
      · exact (NX p (.tail _ hp)).2.1 e9
      · obtain ⟨_, o, ho, _⟩ := B1.frames.2.2.mem hm9
        rw [(N3 p (.tail _ hp)).2.2] at ho; cases ho
    · exact up.ns (FG.ns.at' fun o e9 => F5.keep _ _ e9)
end Mine
end
section
open PySem PySem.W PyProof.Rows
example (prog : Program) (w : World) (A : Around) (E : Value → Shared → Prop) (s : Shared) (Q : Value → Shared → Prop) (h : wpAny (model prog w) A (compareOp .Eq (.int 1 0) (.int 2 0)) Q E s) : wpAny (model prog w) A (compareOp .Eq (.int 1 0) (.int 2 0)) Q E s := by
  w_top off
  k_with_none
  first
    | (walk1; fail)
    | exact h
end
section
open PySem PySem.W PyProof.Rows PySem.Spec PySem.Calls
set_option Elab.async false
set_option autoImplicit false
set_option maxRecDepth 100000
set_option maxHeartbeats 1000000
namespace Mine
section
variable {prog : Program} {w : World} {A : Around}
theorem extend_own {S x : Addr} {res : Value} {R : Result → Shared → Prop} (J : Nat → Array Value → Shared → Prop)
    (hnext : ∀ k acc s', J k acc s' → wpAny (model prog w) A.in1 (pyNext (.ref x)) (fun r s'' => match r with
      | none => R (.ok (.ret res)) s''
      | some v => acc.size < sizeLine ∧ (∃ c, s''.heap.get? S = some (W.listOf acc c)) ∧ ∃ k', k' < k ∧ ∀ h' c, Heap.SameBut S s''.heap h' → h'.get? S = some (W.listOf (acc.push v) c) → J k' (acc.push v) { s'' with heap := h' }) (fun e s' => R (.error e) s') s') :
    ∀ (n k : Nat) (acc : Array Value) (s : Shared), k < n → J k acc s → codeAny (model prog w) A (.builtin "list.extend.loop" ⟨[.ref S, .ref x, res], []⟩) R s := by
  intro n
  induction n with
  | zero => intro k acc s hk; exact absurd hk (Nat.not_lt_zero _)
  | succ n ih =>
    intro k acc s hk hJ
    refine codeAny_builtin F.entry_extend_loop ?_
    rw [Around.under_plainId F.plain_extend_loop _]
    show wpAny _ A.in1 (pyNext (.ref x) >>= _) _ _ s
    refine wpAny_bind (wpAny_mono (hnext k acc s hJ) (fun r s'' hr => ?_) fun _ _ z => z)
    cases r with
    | none => exact wpAny_pure hr
    | some v =>
      obtain ⟨hsz, ⟨c, hS⟩, k', hk', hstep⟩ := hr
      show wpAny _ A.in1 (updateSeq S (·.push v) >>= _) _ _ _
      refine wpAny_bind (wpAny_updateSeq hS rfl (wpAny_pure ⟨plainId_quiet F.plain_extend_loop _, ih k' _ _ (by omega) (hstep _ _ (Heap.SameBut.update ..) (Heap.get?_update_self _ hS rfl))⟩) (by omega) (by show (acc.push v).size ≤ sizeLine + 1; rw [Array.size_push]; omega))
end
section
variable {prog : Program} {w : World} {A : Around} {E : Value → Shared → Prop} {s : Shared}
theorem call_list_own {K : Frag} {x C : Addr} {ox : Obj} {od : Option Obj} {Q : Value → Shared → Prop} (hcx : ox.cls = .ref C)
    (hl : findIn K (.ref C) "__len__" = some none) (hh : findIn K (.ref C) "__length_hint__" = some none) (P : Nat → Array Value → Shared → Prop) (n : Nat)
    (hold : ∀ k acc s', P k acc s' → K.In s'.heap ∧ InstAt s'.heap x ox C od ∧ ∃ c, s'.heap.get? s.heap.objs.size = some (W.listOf acc c))
    (keep : ∀ k acc s', P k acc s' → ∀ h' c, Heap.SameBut s.heap.objs.size s'.heap h' → h'.get? s.heap.objs.size = some (W.listOf acc c) → P k acc { s' with heap := h' })
    (start : P n #[] { s with heap := s.heap.push (W.listOf #[] 0) })
    (hiter : ∀ k acc s' (Q' : Value → Shared → Prop) (E' : Value → Shared → Prop), P k acc s' → (∀ s'', P k acc s'' → Q' (.ref x) s'') → wpAny (model prog w) A.in1.in1 (pyIter (.ref x)) Q' E' s')
    (hnext : ∀ k acc s' (E' : Value → Shared → Prop) (Q' : Option Value → Shared → Prop), P k acc s' → 
      (∀ s'', Q (.ref s.heap.objs.size) s'' → Q' none s'') → (∀ v s'', acc.size < sizeLine → (∃ c, s''.heap.get? s.heap.objs.size = some (W.listOf acc c)) → (∃ k', k' < k ∧ ∀ h' c, Heap.SameBut s.heap.objs.size s''.heap h' → h'.get? s.heap.objs.size = some (W.listOf (acc.push v) c) → P k' (acc.push v) { s'' with heap := h' }) → Q' (some v) s'') →
      wpAny (model prog w) A.in1.in1 (pyNext (.ref x)) Q' E' s') :
    wpAny (model prog w) A (call (.type "list") [.ref x]) Q E s := by
  refine callType_codes (Q₁ := fun obj s₁ => obj = .ref s.heap.objs.size ∧ s₁ = { s with heap := s.heap.push { cls := .type "list", data := .seq #[] } }) F.called_list (F.typeCall_list_1 _) F.entry_list_init
    (code_list_new _ ⟨rfl, rfl⟩) fun obj s₁ h₁ => ?_
  obtain ⟨rfl, rfl⟩ := h₁
  have hS : (s.heap.push { cls := .type "list", data := .seq #[] }).get? s.heap.objs.size = some { cls := .type "list", data := .seq #[] } := Heap.get?_push_size _ rfl
  refine ⟨⟨_, hS, rfl⟩, F.args_list_init_2 _ _, ?_⟩
  show wpAny _ A.in1.in1 (do let old ← Builtin.List.listItems (.ref s.heap.objs.size); Builtin.List.listUpdate (.ref s.heap.objs.size) (fun _ => #[]); letGo old.toList.reverse; Builtin.List.listExtendWith (.ref s.heap.objs.size) (.ref x) .none) _ _ _
  generalize hSz : s.heap.objs.size = S at *
  refine wpAny_bind ?_
  unfold Builtin.List.listItems
  refine wpAny_bind (wpAny_seqItems hS rfl (wpAny_pure ?_))
  show wpAny _ A.in1.in1 (updateSeq S (fun _ => #[]) >>= fun _ => letGo (#[] : Array Value).toList.reverse >>= fun _ => Builtin.List.listExtendWith (.ref S) (.ref x) .none) _ _ _
  refine wpAny_bind (wpAny_updateSeq hS rfl ?_)
  have hS₂ := Heap.get?_update_self (Obj.mapSeq (fun _ => (#[] : Array Value))) hS rfl
  have P2 := keep _ _ _ start _ _ (Heap.SameBut.update ..) hS₂
  refine wpAny_bind (wpAny_letGo ?_)
  obtain ⟨X2, I2, c2, hc2⟩ := hold _ _ _ P2
  unfold Builtin.List.listExtendWith
  refine wpAny_bind (I2.type.here ?_)
  have hne : S ≠ x := fun q => by
    have h9 := I2.at_
    rw [← q, hc2] at h9
    cases h9; exact absurd hcx (by intro z; cases z)
  have h1 : Builtin.List.listSameRef (.ref S) (.ref x) = false := by simp [Builtin.List.listSameRef, hne]
  have h2 : (Value.ref C == Value.type "list") = false := rfl
  have h3 : (Value.ref C == Value.type "tuple") = false := rfl
  simp only [h1, h2, h3, Bool.or_false, Bool.false_eq_true, if_false]
  refine wpAny_bind (hiter _ _ _ _ _ P2 fun s3 P3 => ?_)
  obtain ⟨X3, I3, c3, hc3⟩ := hold _ _ _ P3
  refine wpAny_bind (wpAny_holding ?_)
  unfold Builtin.List.listLengthHint
  refine wpAny_bind (wpAny_bind (I3.type.here ((looks_findIn X3 hl).here ?_)))
  show wpAny _ _ (specialOf (Value.ref x) (Str.ofString "__length_hint__") >>= _) _ _ _
  refine wpAny_bind (wpAny_bind (I3.type.here ((looks_findIn X3 hh).here ?_)))
  refine wpAny_pure ?_
  show wpAny _ A.in1.in1 (rule "list.extend.makes-room" >>= fun _ => Builtin.List.listTouch (.ref S) >>= fun _ =>
    again (.builtin "list.extend.loop" ⟨[.ref S, .ref x, .none], []⟩)) _ _ _
  refine wpAny_bind (wpAny_rule ?_)
  refine wpAny_bind ?_
  show wpAny _ A.in1.in1 (updateSeq S (·.push .none) >>= fun _ => updateSeq S (·.pop)) _ _ _
  refine wpAny_bind (wpAny_updateSeq hc3 rfl ?_)
  have hS₄ := Heap.get?_update_self (Obj.mapSeq (·.push Value.none)) hc3 rfl
  refine wpAny_updateSeq (hz := by seq_fits) hS₄ rfl ?_
  have hS₅ := Heap.get?_update_self (Obj.mapSeq (·.pop)) hS₄ rfl
  have P5 := keep _ _ _ P3 _ _ ((Heap.SameBut.update ..).trans (Heap.SameBut.update ..)) hS₅
  refine wpAny_pure ⟨plainId_quiet F.plain_extend_loop _, extend_own P (fun k acc s' hP => ?_) (n + 1) n _ _ (Nat.lt_succ_self n) P5⟩
  refine hnext k acc s' _ _ hP (fun s'' hq => ⟨rfl, hq⟩) (fun v s'' a b c => ⟨a, b, c⟩)
end
end Mine
end
section
open PySem PySem.W PyProof.Rows
example (prog : Program) (w : World) (A : Around) (E : Value → Shared → Prop) (s : Shared) (Q : Value → Shared → Prop) (h : wpAny (model prog w) A (compareOp .Eq (.int 1 0) (.int 2 0)) Q E s) : wpAny (model prog w) A (compareOp .Eq (.int 1 0) (.int 2 0)) Q E s := by
  w_top off
  k_with_none
  first
    | (walk1; fail)
    | exact h
end
section
open PySem PySem.W PyProof.Rows PySem.Spec PySem.Calls
set_option Elab.async false
set_option autoImplicit false
set_option maxRecDepth 100000
set_option maxHeartbeats 1000000
namespace Mine
theorem enter_led {prog : Program} {w : World} {A : Around} {s : Shared} {h₀ : Heap} {L : Addr} {m : Str → Option Value} {news : List (Addr × Obj)} {K : Frag} {p : Program} {loose : List Str} {mean : ExcName → Option Value} {mg mb : Str → Option Value}
    {R : Result → Shared → Prop} {name qual : Str} {params : Arguments} {body : List Stmt} {scope : Scope} {dV kV doc pm cdv ct oc : Value} {an od : Option Addr} {osl : Array (Option Value)} {f : Addr} {args : Args} {binds : List (Str × Value)}
    (F : Fr h₀ L s.heap m) (X₀ : K.In h₀) (N : News h₀ L s.heap news) (T : Top p loose mean mg mb h₀)
    (ho : K.lookup f = some ⟨oc, od, .func (fnOf name qual params body scope dV kV doc pm an cdv ct), osl⟩) (hcd : codeIn K cdv qual = true) (hroom : A.depth < recursionLimit)
    (hbind : BindsTo s (fnOf name qual params body scope dV kV doc pm an cdv ct) args binds) (hloc : ∀ y ∈ binds, scope.names.lookup y.1 = some .local)
    (h : ∀ oL L2 h₁, TI.Caller h₀ L m oL → L < L2 → (∀ p ∈ news, p.1 < L2) → (∀ p ∈ news, @Ne Nat p.1 L) → Fr h₀ L2 h₁ (fun y => binds.reverse.lookup y) → News h₀ L2 h₁ ((L, ({ oL with slots := oL.slots } : Obj)) :: news) →
      wpAny (model prog w) (A.deeper (envOf qual scope L2 f cdv)) (execs body (envOf qual scope L2 f cdv))
        (fun fl s' => TI.LeaveI s' (R (.ok (.ret (match fl with | .ret v => v | _ => .none))) s'))
        (fun e s' => wpAny (model prog w) (A.deeper (envOf qual scope L2 f cdv)) (leaving (envOf qual scope L2 f cdv) e) (fun _ s'' => TI.LeaveX (R (.error e) s'')) (fun e' s'' => TI.LeaveX (R (.error e') s'')) s')
        { s with heap := h₁, toks := s.toks + binds.length })
    (hco : scope.isCoroutine = false := by rfl) (hgen : scope.isGenerator = false := by rfl) (hk : scope.kind = .function := by rfl)
    (hcell : ∀ x ∈ scope.names, x.2 ≠ .cell := by decide) : codeAny (model prog w) A (.call (.ref f) args) R s := by
  have X := X₀.keeps F.keep
  obtain ⟨oL, es, ep, hL, hLd, hLk, hLf⟩ := F.ns
  have hLt := Heap.lt_size hL
  refine codeAny_call_def (fd := fnOf name qual params body scope dV kV doc pm an cdv ct) (body := body) (binds := binds) hroom (X _ _ ho) rfl (T.nolimit.keeps F.keep) (codeRec_of X hcd) rfl hbind hcell hloc (fun h₁ hns hk₁ => ?_) hco hgen hk
  refine wpAny_mono (h oL _ h₁ ⟨fun h' sl e => ⟨_, es, ep, e, hLd, hLk, hLf⟩, ⟨es, ep, hLd⟩, F.above⟩ hLt (fun p hp => Heap.lt_size (N p hp).1) (fun p hp => (N p hp).2.1)
    ⟨hns, fun b o e => hk₁ b o (F.keep b o e), Nat.le_trans F.above (Nat.le_of_lt hLt)⟩ (fun p hp => ?_)) (fun _ _ x => x) fun _ _ x => wpAny_mono x (fun _ _ y => y) fun _ _ y => y
  rcases List.mem_cons.mp hp with rfl | hp
  · exact ⟨hk₁ _ _ hL, Nat.ne_of_lt hLt, Heap.get?_none_of_le F.above⟩
  · obtain ⟨h1, h2, h3⟩ := N p hp
    exact ⟨hk₁ _ _ h1, Nat.ne_of_lt (Heap.lt_size h1), h3⟩
theorem cut_below2 {h₀ H : Heap} {L : Addr} {m : Str → Option Value} {news : List (Addr × Obj)} {L0 a0 L1 a1 : Addr} {m0 m1 : Str → Option Value} {o0 o1 : Obj} {sl0 sl1 : Array (Option Value)} {cn0 cn1 : Str} {cs0 cs1 : Scope} {cd0 cd1 : Value} (F : Fr h₀ L H m) (N : News h₀ L H news)
    (C0 : TI.Caller h₀ L0 m0 o0) (hm0 : (L0, ({ o0 with slots := sl0 } : Obj)) ∈ news) (hlt0 : L0 < L) (hk0 : cs0.kind = .function) (C1 : TI.Caller h₀ L1 m1 o1) (hm1 : (L1, ({ o1 with slots := sl1 } : Obj)) ∈ news) (hlt1 : L1 < L) (hk1 : cs1.kind = .function) :
    Below { callerA with frames := some [envOf cn1 cs1 L1 a1 cd1, envOf cn0 cs0 L0 a0 cd0] } h₀ [envOf cn1 cs1 L1 a1 cd1, envOf cn0 cs0 L0 a0 cd0] (cut H L) := by
  refine ⟨rfl, cut_keep F, ?_⟩
  have e0 := (N _ hm0).1
  have e1 := (N _ hm1).1
  exact Heap.FunFrames.cons (by show cs1.kind ≠ .module; rw [hk1]; decide) rfl (C1.ns (cut H L) sl1 ((cut_lt hlt1).trans e1)) (N _ hm1).2.2
    (Heap.FunFrames.cons (by show cs0.kind ≠ .module; rw [hk0]; decide) rfl (C0.ns (cut H L) sl0 ((cut_lt hlt0).trans e0)) (N _ hm0).2.2 trivial)
end Mine
end
section
open PySem PySem.W PyProof.Rows
example (prog : Program) (w : World) (A : Around) (E : Value → Shared → Prop) (s : Shared) (Q : Value → Shared → Prop) (h : wpAny (model prog w) A (compareOp .Eq (.int 1 0) (.int 2 0)) Q E s) : wpAny (model prog w) A (compareOp .Eq (.int 1 0) (.int 2 0)) Q E s := by
  w_top off
  k_with_none
  first
    | (walk1; fail)
    | exact h
end
section
open PySem PySem.W PyProof.Rows PySem.Spec PySem.Calls
set_option Elab.async false
set_option autoImplicit false
set_option maxRecDepth 100000
set_option maxHeartbeats 8000000
set_option pp.deepTerms false
set_option pp.deepTerms.threshold 8
set_option pp.fieldNotation false
namespace Mine
example : (PySem.Challenge.rw_il0160_01 = PySem.Challenge.rw_il0160_01 ∧ hd.heap_39 = hd.heap_39) := by k_fill; exact ⟨rfl, rfl⟩
theorem ff_iter {w : World} {loose : List Str} {mean : ExcName → Option Value} {mg mb : Str → Option Value} {news : List (Addr × Obj)}
    {dp un : Nat} {gd : Option (List Code)} {cn : Str} {cs : Scope} {a₁ : Addr} {ccd : Value} {cl : List (Str × Addr)} {outer : List Env} {A₀ : Around} {base h₀ : Heap} {L : Addr} {m : Str → Option Value} {s : Shared} {Q E : Value → Shared → Prop} {x : Addr}
    (B : Below A₀ base outer h₀) (F : Fr h₀ L s.heap m) (X : (hd.heap_39 w.params).In h₀) (N : News h₀ L s.heap news) (T : Top hd.view_39 loose mean mg mb h₀) (hk : cs.kind = .function) (hdp : dp + 2 < recursionLimit)
    (hret : ∀ (h' : Heap) (tk' : Nat), Fr h₀ L h' m → News h₀ L h' news → Q (.ref x) { s with heap := h', toks := tk' }) :
    wpAny (model (RowW.prog (OpenRow.toRowW (OpenLaw.row PySem.Challenge.rw_il0160_01))) w) (ktrTop dp un gd cn cs L a₁ ccd cl outer) (call (.ref 36) [.ref x]) Q E s := by
  refine wpAny_call ?_
  cell_enter
  k_steps
  exact hret _ _ (by assumption) (by assumption)
theorem uncut3 {h₀ H h' : Heap} {L : Addr} {m m' : Str → Option Value} {news : List (Addr × Obj)} {A1 A2 A3 : Addr × Obj} (F : Fr h₀ L H m) (N : News h₀ L H news) (F' : Fr (cut H L) L h' m') (N' : News (cut H L) L h' (A1 :: A2 :: A3 :: after L news)) : News h₀ L h' (A1 :: A2 :: A3 :: news) := fun p hp => by
  have old : ∀ q, (cut H L).get? q = none → h₀.get? q = none := fun q z => by
    cases e : h₀.get? q with
    | none => rfl
    | some o => rw [cut_keep F q o e] at z; cases z
  rcases mo3 hp with rfl | rfl | rfl | hp
  · obtain ⟨n1, n2, n3⟩ := N' _ (.head _); exact ⟨n1, n2, old _ n3⟩
  · obtain ⟨n1, n2, n3⟩ := N' _ (.tail _ (.head _)); exact ⟨n1, n2, old _ n3⟩
  · obtain ⟨n1, n2, n3⟩ := N' _ (.tail _ (.tail _ (.head _))); exact ⟨n1, n2, old _ n3⟩
  · exact uncut_news N F' (fun q hq => N' q (.tail _ (.tail _ (.tail _ hq)))) p hp
section
variable {w : World} {loose : List Str} {mean : ExcName → Option Value} {mg mb : Str → Option Value} {news : List (Addr × Obj)}
    {dp un : Nat} {gd : Option (List Code)} {cn : Str} {cs : Scope} {a₁ : Addr} {ccd : Value} {cl : List (Str × Addr)} {h₀ : Heap} {L : Addr} {m : Str → Option Value} {s : Shared} {Q E : Value → Shared → Prop}
    {L0 a0 : Addr} {m0 : Str → Option Value} {o0 : Obj} {sl0 : Array (Option Value)} {cn0 : Str} {cs0 : Scope} {cd0 : Value}
    {L1 a1 : Addr} {m1 : Str → Option Value} {o1 : Obj} {sl1 : Array (Option Value)} {cn1 : Str} {cs1 : Scope} {cd1 : Value} {mw a b na nb : Nat} {vs ws : List Value} {bs ds : List (Array UInt8)}
theorem ff_new_led (F : Fr h₀ L s.heap m) (X : (hd.heap_39 w.params).In h₀) (N : News h₀ L s.heap news) (T : Top hd.view_39 loose mean mg mb h₀) (hk : cs.kind = .function)
    (C0 : TI.Caller h₀ L0 m0 o0) (hm0 : (L0, ({ o0 with slots := sl0 } : Obj)) ∈ news) (hlt0 : L0 < L) (hk0 : cs0.kind = .function)
    (C1 : TI.Caller h₀ L1 m1 o1) (hm1 : (L1, ({ o1 with slots := sl1 } : Obj)) ∈ news) (hlt1 : L1 < L) (hk1 : cs1.kind = .function) (hdp : dp + 2 < recursionLimit)
    (hmw : (mw, mwObj b) ∈ news) (hmwL : L < mw) (ha : (a, W.listOf vs.toArray na) ∈ news) (haL : a < L)
    (hret : ∀ (x dx it : Addr) (oi : Obj) (h' : Heap) (tk' : Nat), LI oi a 0 → mw < dx → dx < x → x < it → Fr h₀ L h' m → News h₀ L h' ((it, oi) :: (x, ffObj dx mw it) :: (dx, W.dictOf [] 0) :: news) → Q (.ref x) { s with heap := h', toks := tk' }) :
    wpAny (model (RowW.prog (OpenRow.toRowW (OpenLaw.row PySem.Challenge.rw_il0160_01))) w) (ktrTop dp un gd cn cs L a₁ ccd cl [envOf cn1 cs1 L1 a1 cd1, envOf cn0 cs0 L0 a0 cd0]) (call (.ref 47) [.ref mw, .ref a]) Q E s := by
  refine ff_new (vs := vs) (cut_below2 F N C0 hm0 hlt0 hk0 C1 hm1 hlt1 hk1) (cut_fr F) (X.keeps (cut_keep F)) (cut_news N) (T.keeps (cut_keep F)) hk hdp ⟨_, (cut_lt haL).trans (N _ ha).1, rfl, _, rfl⟩ fun x dx it oi h' tk' li l1 l2 l3 F' N' => ?_
  exact hret x dx it oi h' tk' li (l1 _ (List.mem_filter.mpr ⟨hmw, by simpa using hmwL⟩)) l2 l3 (uncut_fr F F') (uncut3 F N F' N')
end
end Mine
end
section
open PySem PySem.W PyProof.Rows
example (prog : Program) (w : World) (A : Around) (E : Value → Shared → Prop) (s : Shared) (Q : Value → Shared → Prop) (h : wpAny (model prog w) A (compareOp .Eq (.int 1 0) (.int 2 0)) Q E s) : wpAny (model prog w) A (compareOp .Eq (.int 1 0) (.int 2 0)) Q E s := by
  w_top off
  k_with_none
  first
    | (walk1; fail)
    | exact h
end
section
open PySem PySem.W PyProof.Rows PySem.Spec PySem.Calls
set_option Elab.async false
set_option autoImplicit false
set_option maxRecDepth 100000
set_option maxHeartbeats 8000000
set_option pp.deepTerms false
set_option pp.deepTerms.threshold 8
set_option pp.fieldNotation false
namespace Mine
example : (PySem.Challenge.rw_il0160_01 = PySem.Challenge.rw_il0160_01 ∧ hd.heap_39 = hd.heap_39) := by k_fill; exact ⟨rfl, rfl⟩
theorem take_snoc {α : Type} {l : List α} {j : Nat} {v : α} (h : l[j]? = some v) : l.take (j + 1) = l.take j ++ [v] := by
  rw [List.take_add_one, h]; rfl
theorem filt_skip {vs : List Value} {ds : List (Array UInt8)} {i j : Nat} (hij : i ≤ j) (hsk : ∀ q u, i ≤ q → q < j → vs[q]? = some u → hasB ds u = true) :
    (vs.take j).filter (fun v => !hasB ds v) = (vs.take i).filter (fun v => !hasB ds v) := by
  induction j with
  | zero => rw [Nat.le_zero.mp hij]
  | succ j ih =>
    rcases Nat.lt_or_ge i (j + 1) with h | h
    · have h' : i ≤ j := Nat.le_of_lt_succ h
      rw [← ih h' (fun q u h1 h2 h3 => hsk q u h1 (Nat.lt_succ_of_lt h2) h3)]
      cases e : vs[j]? with
      | none => rw [List.take_add_one, e]; simp
      | some u =>
        rw [take_snoc e, List.filter_append]
        have := hsk j u h' (Nat.lt_succ_self j) e
        simp [this]
    · rw [Nat.le_antisymm hij h]
section
variable {w : World} {loose : List Str} {mean : ExcName → Option Value} {mg mb : Str → Option Value} {news : List (Addr × Obj)}
    {dp un : Nat} {gd : Option (List Code)} {cn : Str} {cs : Scope} {a₁ : Addr} {ccd : Value} {cl : List (Str × Addr)} {h₀ : Heap} {L : Addr} {m : Str → Option Value} {s : Shared} {Q E : Value → Shared → Prop}
    {L0 a0 : Addr} {m0 : Str → Option Value} {o0 : Obj} {sl0 : Array (Option Value)} {cn0 : Str} {cs0 : Scope} {cd0 : Value}
    {L1 a1 : Addr} {m1 : Str → Option Value} {o1 : Obj} {sl1 : Array (Option Value)} {cn1 : Str} {cs1 : Scope} {cd1 : Value} {mw a b na nb x dx it : Nat} {oi : Obj} {vs ws : List Value} {bs ds : List (Array UInt8)}
noncomputable def PL (h₀ : Heap) (L S x dx it mw a : Addr) (m : Str → Option Value) (news : List (Addr × Obj)) (vs : List Value) (ds : List (Array UInt8)) (s : Shared) (k : Nat) (acc : Array Value) (s' : Shared) : Prop :=
  ∃ h tk j oj c, s' = { s with heap := h, toks := tk } ∧ Fr h₀ L h m ∧ News h₀ L h ((S, W.listOf acc c) :: (it, oj) :: (x, ffObj dx mw it) :: (dx, W.dictOf [] 0) :: news) ∧ LI oj a j ∧ j ≤ vs.length ∧ k = vs.length - j ∧ acc = ((vs.take j).filter fun v => !hasB ds v).toArray
theorem list_ff (F : Fr h₀ L s.heap m) (X : (hd.heap_39 w.params).In h₀) (N : News h₀ L s.heap ((it, oi) :: (x, ffObj dx mw it) :: (dx, W.dictOf [] 0) :: news)) (T : Top hd.view_39 loose mean mg mb h₀) (hk : cs.kind = .function)
    (C0 : TI.Caller h₀ L0 m0 o0) (hm0 : (L0, ({ o0 with slots := sl0 } : Obj)) ∈ news) (hlt0 : L0 < L) (hk0 : cs0.kind = .function)
    (C1 : TI.Caller h₀ L1 m1 o1) (hm1 : (L1, ({ o1 with slots := sl1 } : Obj)) ∈ news) (hlt1 : L1 < L) (hk1 : cs1.kind = .function) (hdp : dp + 2 < recursionLimit)
    (hmw : (mw, mwObj b) ∈ news) (hmwL : L < mw) (ha : (a, W.listOf vs.toArray na) ∈ news) (haL : a < L) (hb : (b, W.listOf ws.toArray nb) ∈ news) (hbL : b < L)
    (hli : LI oi a 0) (l1 : mw < dx) (l2 : dx < x) (l3 : x < it) (hnews : ∀ p ∈ news, p.1 < L ∨ p = (mw, mwObj b)) (hsz : vs.length < sizeLine) (hvs : BysAre vs bs) (hws : BysAre ws ds)
    (hret : ∀ (S : Addr) (n : Nat) (h' : Heap) (tk' : Nat) (sl0' sl1' : Array (Option Value)), Fr h₀ L h' m →
      (∀ l : List (Addr × Obj), (∀ p ∈ l, p ∈ news ∧ p.1 ≠ L0 ∧ p.1 ≠ L1 ∧ p.1 < L) → News h₀ L h' ((S, W.listOf (vs.filter fun v => !hasB ds v).toArray n) :: (L1, ({ o1 with slots := sl1' } : Obj)) :: (L0, ({ o0 with slots := sl0' } : Obj)) :: l)) →
      (∀ p ∈ news, p.1 < S) → Q (.ref S) { s with heap := h', toks := tk' }) :
    wpAny (model (RowW.prog (OpenRow.toRowW (OpenLaw.row PySem.Challenge.rw_il0160_01))) w) (ktrTop dp un gd cn cs L a₁ ccd cl [envOf cn1 cs1 L1 a1 cd1, envOf cn0 cs0 L0 a0 cd0]) (call (.type "list") [.ref x]) Q E s := by
  have lts : ∀ p ∈ (it, oi) :: (x, ffObj dx mw it) :: (dx, W.dictOf [] 0) :: news, p.1 < s.heap.objs.size := fun p hp => Heap.lt_size (N p hp).1
  have sI : it < s.heap.objs.size := lts _ (.head _)
  have sX : x < s.heap.objs.size := lts _ (.tail _ (.head _))
  have sD : dx < s.heap.objs.size := lts _ (.tail _ (.tail _ (.head _)))
  have sN : ∀ p ∈ news, p.1 < s.heap.objs.size := fun p hp => lts _ (.tail _ (.tail _ (.tail _ hp)))
  have sL : L < s.heap.objs.size := F.ns.lt
  have inst : ∀ {h acc c oj}, News h₀ L h ((s.heap.objs.size, W.listOf acc c) :: (it, oj) :: (x, ffObj dx mw it) :: (dx, W.dictOf [] 0) :: news) → InstAt h x (ffObj dx mw it) 47 (some (W.dictOf [] 0)) := fun N9 =>
    ⟨(N9 (x, ffObj dx mw it) mi2).1, rfl, rfl, (N9 (dx, W.dictOf [] 0) mi3).1⟩
  refine call_list_own (K := hd.heap_39 w.params) (C := 47) (ox := ffObj dx mw it) (od := some (W.dictOf [] 0)) rfl (by k_is) (by k_is) (PL h₀ L s.heap.objs.size x dx it mw a m news vs ds s) vs.length ?hold ?keep ?start ?hiter ?hnext
  case hold =>
    rintro k acc s' ⟨h, tk, j, oj, c, rfl, F1, N1, _⟩
    exact ⟨X.keeps F1.keep, inst N1, c, (N1 _ (.head _)).1⟩
  case keep =>
    rintro k acc s' ⟨h, tk, j, oj, c, rfl, F1, N1, g1, g2, g3, g4⟩ h' c' hs hS
    refine ⟨h', tk, j, oj, c', rfl, F1.change hs (N1 _ (.head _)).2.1 (N1 _ (.head _)).2.2, set_it N1 (fun p hp => ?_) hs hS, g1, g2, g3, g4⟩
    rcases mo3 hp with rfl | rfl | rfl | hp
    · exact Nat.ne_of_lt sI
    · exact Nat.ne_of_lt sX
    · exact Nat.ne_of_lt sD
    · exact Nat.ne_of_lt (sN p hp)
  case start =>
    exact ⟨_, s.toks, 0, oi, 0, rfl, F.push _, News.push F N _ rfl, hli, Nat.zero_le _, rfl, rfl⟩
  case hiter =>
    rintro k acc s' Q' E' ⟨h, tk, j, oj, c, rfl, F1, N1, g1, g2, g3, g4⟩ hq
    refine owit_iter (f := 36) F1 X (inst N1) (by k_is) (by k_is) ?_
    refine ff_iter (cut_below2 F1 N1 C0 (.tail _ (.tail _ (.tail _ (.tail _ hm0)))) hlt0 hk0 C1 (.tail _ (.tail _ (.tail _ (.tail _ hm1)))) hlt1 hk1) (cut_fr F1) (X.keeps (cut_keep F1)) (cut_news N1) (T.keeps (cut_keep F1)) hk hdp fun h' tk' F2 N2 => ?_
    have N3 := uncut_news N1 F2 N2
    have F3 := uncut_fr F1 F2
    exact owit_it (g := .ref 43) F3 X (inst N3) (by k_is) (hq _ ⟨h', tk', j, oj, c, rfl, F3, N3, g1, g2, g3, g4⟩)
  case hnext =>
    rintro k acc s' E' Q' ⟨h, tk, j, oj, c, rfl, F1, N1, g1, g2, g3, g4⟩ hend hitem
    refine owit_next (f := 43) F1 X (inst N1) (by k_is) (by k_is) ?_
    have old : ∀ q, (cut h L).get? q = none → h₀.get? q = none := fun q z => by
      cases e : h₀.get? q with
      | none => rfl
      | some o => rw [cut_keep F1 q o e] at z; cases z
    have young : ∀ {q : Nat}, L < q → (cut h L).get? q = none := fun {q} hq => by
      cases e : (cut h L).get? q with
      | none => rfl
      | some o => exact absurd (Nat.lt_trans hq (cut_some e).1) (Nat.lt_irrefl _)
    have mem1 : ∀ {p}, p ∈ news → p ∈ (s.heap.objs.size, W.listOf acc c) :: (it, oj) :: (x, ffObj dx mw it) :: (dx, W.dictOf [] 0) :: news := fun hp => .tail _ (.tail _ (.tail _ (.tail _ hp)))
    have getc : ∀ p ∈ news, p.1 < L → (cut h L).get? p.1 = some p.2 := fun p hp hl => (cut_lt hl).trans (N1 p (mem1 hp)).1
    have yD : L < dx := Nat.lt_trans hmwL l1
    have yX : L < x := Nat.lt_trans yD l2
    have yI : L < it := Nat.lt_trans yX l3
    have hacc : acc.size ≤ vs.length := by
      rw [g4, List.size_toArray]
      exact Nat.le_trans (List.length_filter_le _ _) (by rw [List.length_take]; exact Nat.min_le_right _ _)
    refine ff_next (dx := dx) (it := it) (mw := mw) (a := a) (b := b) (vs := vs) (ws := ws) (cs0 := ds) (nb := nb) (i := j) (oi := oj) (bs := bs) (news := [(s.heap.objs.size, W.listOf acc c)]) (cut_below2 F1 N1 C0 (mem1 hm0) hlt0 hk0 C1 (mem1 hm1) hlt1 hk1) (cut_fr F1) (X.keeps (cut_keep F1)) ?hN (T.keeps (cut_keep F1)) hk hdp
      ⟨_, getc _ ha haL, rfl, _, rfl⟩ (getc _ hb hbL) g1 hvs hws g2 ?hNX ?hne ?hret ?hE
    case hN =>
      intro p hp
      obtain rfl := List.mem_singleton.mp hp
      exact ⟨(N1 _ (.head _)).1, (N1 _ (.head _)).2.1, young sL⟩
    case hNX =>
      intro p hp
      rcases mc5 hp with rfl | rfl | rfl | rfl | rfl
      · exact ⟨(N1 (it, oj) mi1).1, (N1 (it, oj) mi1).2.1, young yI⟩
      · exact ⟨(N1 (x, ffObj dx mw it) mi2).1, (N1 (x, ffObj dx mw it) mi2).2.1, young yX⟩
      · exact ⟨(N1 (dx, W.dictOf [] 0) mi3).1, (N1 (dx, W.dictOf [] 0) mi3).2.1, young yD⟩
      · exact ⟨(N1 _ (mem1 hmw)).1, (N1 _ (mem1 hmw)).2.1, young hmwL⟩
      · exact ⟨(N1 _ (.head _)).1, (N1 _ (.head _)).2.1, young sL⟩
    case hne =>
      intro p hp
      rcases mc4 hp with rfl | rfl | rfl | rfl
      · exact Nat.ne_of_lt l3
      · exact Nat.ne_of_lt (Nat.lt_trans l2 l3)
      · exact Nat.ne_of_lt (Nat.lt_trans l1 (Nat.lt_trans l2 l3))
      · exact Nat.ne_of_gt sI
    case hret =>
      intro j' v oj' h' tk' hij hv hq hsk hj' F' N'
      have F3 := uncut_fr F1 F'
      have N3 : News h₀ L h' ((s.heap.objs.size, W.listOf acc c) :: (it, oj') :: (x, ffObj dx mw it) :: (dx, W.dictOf [] 0) :: news) := by
        intro p hp
        have of' : ∀ p, p ∈ (it, oj') :: (x, ffObj dx mw it) :: (dx, W.dictOf [] 0) :: (mw, mwObj b) :: [(s.heap.objs.size, W.listOf acc c)] → h'.get? p.1 = some p.2 ∧ p.1 ≠ L ∧ h₀.get? p.1 = none := fun p hp =>
          ⟨(N' p hp).1, (N' p hp).2.1, old _ (N' p hp).2.2⟩
        rcases mo4 hp with rfl | rfl | rfl | rfl | hp
        · exact of' _ mi4
        · exact of' _ mi0
        · exact of' _ mi1
        · exact of' _ mi2
        · rcases hnews p hp with hl | rfl
          · exact ⟨F'.keep _ _ (getc p hp hl), (N1 p (mem1 hp)).2.1, (N1 p (mem1 hp)).2.2⟩
          · exact of' _ mi3
      have hjl : j' < vs.length := (List.getElem?_eq_some_iff.mp hv).1
      refine hitem v _ (Nat.lt_of_le_of_lt hacc hsz) ⟨c, (N3 _ (.head _)).1⟩ ⟨vs.length - (j' + 1), by omega, fun h2 c2 hs hS => ?_⟩
      refine ⟨h2, tk', j' + 1, oj', c2, rfl, F3.change hs (N3 _ (.head _)).2.1 (N3 _ (.head _)).2.2, set_it N3 (fun p hp => ?_) hs hS, hj', hjl, rfl, ?_⟩
      · rcases mo3 hp with rfl | rfl | rfl | hp
        · exact Nat.ne_of_lt sI
        · exact Nat.ne_of_lt sX
        · exact Nat.ne_of_lt sD
        · exact Nat.ne_of_lt (sN p hp)
      · rw [take_snoc hv, List.filter_append, filt_skip hij hsk, g4]
        simp [hq]
    case hE =>
      intro b' e t h' tk' hall fl k1 k2 hn up
      obtain ⟨ob, hob, hobc⟩ := fl.there
      unfold OwitStop
      refine wpAny_isInstance (T := "StopIteration") (b := true) ⟨ob, hob, hobc⟩ (by rw [isSubtype_type]; kernel_rfl) ?_
      rw [if_pos rfl]
      have n0 : h₀.get? L0 = none := (N1 _ (mem1 hm0)).2.2
      have n1 : h₀.get? L1 = none := (N1 _ (mem1 hm1)).2.2
      have nf : ∀ {o : Obj} {sl : Array (Option Value)} {m : Str → Option Value} {L : Addr}, TI.Caller h₀ L m o → ∀ vs, ({ o with slots := sl } : Obj).data ≠ .fields vs := fun C vs q => by
        obtain ⟨es, ep, hd'⟩ := C.dict
        have q' : _ = Data.fields vs := q
        rw [hd'] at q'; cases q'
      obtain ⟨sl0', e0⟩ := up L0 _ (getc _ hm0 hlt0) (nf C0)
      obtain ⟨sl1', e1⟩ := up L1 _ (getc _ hm1 hlt1) (nf C1)
      have notin : ∀ b, b ≠ L0 → b ≠ L1 → b ∉ [envOf cn1 cs1 L1 a1 cd1, envOf cn0 cs0 L0 a0 cd0].filterMap (·.frame) := fun b h1 h2 hm' => by
        rcases List.mem_cons.mp hm' with q | q
        · exact h2 q
        · exact h1 (List.mem_singleton.mp q)
      refine hend _ (hret _ c h' tk' sl0' sl1' ⟨hn, fun b o q => fl.1 _ _ (k1 b o (cut_keep F1 b o q) (notin b (fun z => by rw [z, n0] at q; cases q) (fun z => by rw [z, n1] at q; cases q))), F1.above⟩ (fun l hl p hp => ?_) sN)
      rcases mo3 hp with rfl | rfl | rfl | hp
      · have z := filt_skip (ds := ds) (vs := vs) g2 (fun q u h1 _ h3 => hall q u h1 h3)
        rw [List.take_length] at z
        refine ⟨?_, (N1 _ (.head _)).2.1, (N1 _ (.head _)).2.2⟩
        rw [z, ← g4]
        exact fl.1 _ _ (k2 _ (by simp))
      · exact ⟨e1, (N1 _ (mem1 hm1)).2.1, n1⟩
      · exact ⟨e0, (N1 _ (mem1 hm0)).2.1, n0⟩
      · obtain ⟨q1, q2, q3, q4⟩ := hl p hp
        exact ⟨fl.1 _ _ (k1 _ _ (getc p q1 q4) (notin _ q2 q3)), (N1 _ (mem1 q1)).2.1, (N1 _ (mem1 q1)).2.2⟩
end
end Mine
end
section
open PySem PySem.W PyProof.Rows
example (prog : Program) (w : World) (A : Around) (E : Value → Shared → Prop) (s : Shared) (Q : Value → Shared → Prop) (h : wpAny (model prog w) A (compareOp .Eq (.int 1 0) (.int 2 0)) Q E s) : wpAny (model prog w) A (compareOp .Eq (.int 1 0) (.int 2 0)) Q E s := by
  w_top off
  k_with_none
  first
    | (walk1; fail)
    | exact h
end
section
open PySem PySem.W PyProof.Rows PySem.Spec PySem.Calls
set_option Elab.async false
set_option autoImplicit false
set_option maxRecDepth 100000
set_option maxHeartbeats 8000000
set_option pp.deepTerms false
set_option pp.deepTerms.threshold 8
set_option pp.fieldNotation false
namespace Mine
example : (PySem.Challenge.rw_il0160_01 = PySem.Challenge.rw_il0160_01 ∧ hd.heap_39 = hd.heap_39) := by k_fill; exact ⟨rfl, rfl⟩
theorem contains_K {prog : Program} {w : World} {A : Around} {E : Value → Shared → Prop} {s : Shared} {h₀ : Heap} {L : Addr} {m : Str → Option Value} {news : List (Addr × Obj)} {b : Addr} {items : Array Value} {n : Nat} {Q : Value → Shared → Prop}
    (F : Fr h₀ L s.heap m) (N : News h₀ L s.heap news) (hb : (b, W.listOf items n) ∈ news)
    (h : ∀ x h' tk, Fr h₀ L h' m → News h₀ L h' ((x, mwObj b) :: news) → (∀ p ∈ news, p.1 < x) → L < x → Q (.ref x) { s with heap := h', toks := tk }) : wpAny (model prog w) A (getAttr (.ref b) "__contains__" true) Q E s :=
  attr_contains (N _ hb).1 fun tk => h _ _ tk (F.push _) (News.push F N _ rfl) (fun p hp => Heap.lt_size (N p hp).1) F.ns.lt
section
variable {w : World} {loose : List Str} {mean : ExcName → Option Value} {mg mb : Str → Option Value} {news : List (Addr × Obj)}
    {dp un : Nat} {gd : Option (List Code)} {cn : Str} {cs : Scope} {a₁ : Addr} {ccd : Value} {h₀ : Heap} {L : Addr} {m : Str → Option Value} {s : Shared} {Q E : Value → Shared → Prop}
    {L0 a0 : Addr} {m0 : Str → Option Value} {o0 : Obj} {sl0 : Array (Option Value)} {cn0 : Str} {cs0 : Scope} {cd0 : Value} {a b na nb : Nat} {vs ws : List Value} {bs ds : List (Array UInt8)}
theorem filter_led (F : Fr h₀ L s.heap m) (X : (hd.heap_39 w.params).In h₀) (N : News h₀ L s.heap news) (T : Top hd.view_39 loose mean mg mb h₀) (hk : cs.kind = .function)
    (C0 : TI.Caller h₀ L0 m0 o0) (hm0 : (L0, ({ o0 with slots := sl0 } : Obj)) ∈ news) (hlt0 : L0 < L) (hk0 : cs0.kind = .function) (hdp : dp + 4 < recursionLimit)
    (ha : (a, W.listOf vs.toArray na) ∈ news) (hb : (b, W.listOf ws.toArray nb) ∈ news) (hsz : vs.length < sizeLine) (hvs : BysAre vs bs) (hws : BysAre ws ds)
    (hret : ∀ (S : Addr) (n : Nat) (h' : Heap) (tk' : Nat) (sl0' : Array (Option Value)), Fr h₀ L h' m →
      (∀ l : List (Addr × Obj), (∀ p ∈ l, p ∈ news ∧ p.1 ≠ L0) → News h₀ L h' ((S, W.listOf (vs.filter fun v => !hasB ds v).toArray n) :: (L0, ({ o0 with slots := sl0' } : Obj)) :: l)) →
      (∀ p ∈ news, p.1 < S) → Q (.ref S) { s with heap := h', toks := tk' }) :
    wpAny (model (RowW.prog (OpenRow.toRowW (OpenLaw.row PySem.Challenge.rw_il0160_01))) w) (ktrTop dp un gd cn cs L a₁ ccd [] [envOf cn0 cs0 L0 a0 cd0]) (call (.ref 58) [.ref a, .ref b]) Q E s := by
  refine wpAny_call ?_
  refine enter_led F X N T (by k_is) (by k_is) (by show dp < _; omega) (by first | exact binds_K (by k_in) rfl (by k_is) rfl rfl rfl | exact BindsTo.of_eq rfl) (locs rfl) ?_
  intro o1 L2 h1 C1 l12 sN hne F1 N1
  try dsimp only
  k_steps
  rename Fr _ _ _ _ => F2
  rename News _ _ _ _ => N2
  have sa : a < L2 := sN _ ha
  have sb : b < L2 := sN _ hb
  have s0 : L0 < L2 := sN _ hm0
  refine contains_K (n := nb) F2 N2 (.tail _ hb) ?_
  intro mw h3 tk3 F3 N3 l3 l4
  k_steps
  refine ff_new_led F3 X N3 T (by rfl) C0 (.tail _ (.tail _ hm0)) s0 hk0 C1 (.tail _ (.head _)) l12 hk (by ktr_room) (.head _) l4 (.tail _ (.tail _ ha)) sa ?_
  intro x dx it oi h5 tk5 hli q1 q2 q3 F5 N5
  k_steps
  refine list_ff F5 X N5 T (by rfl) C0 (.tail _ (.tail _ hm0)) s0 hk0 C1 (.tail _ (.head _)) l12 hk (by ktr_room) (.head _) l4 (.tail _ (.tail _ ha)) sa (.tail _ (.tail _ hb)) sb hli q1 q2 q3 ?_ hsz hvs hws ?_
  · intro p hp
    simp only [List.mem_cons] at hp
    rcases hp with rfl | rfl | hp
    · exact .inr rfl
    · exact .inl l12
    · exact .inl (sN _ hp)
  intro S n h7 tk7 sl0' sl1' F7 N7 l7
  k_steps
  have lS : L < S := l7 (L, ({ o1 with slots := o1.slots } : Obj)) (.tail _ (.head _))
  refine hret S n h7 tk7 sl0' ⟨C1.ns h7 sl1' (N7 [] (fun p hp => nomatch hp) _ (.tail _ (.head _))).1, F7.keep, F.above⟩ (fun l hl p hp => ?_) (fun p hp => l7 p (.tail _ (.tail _ hp)))
  have N8 := N7 l (fun p hp => ⟨.tail _ (.tail _ (hl p hp).1), (hl p hp).2, hne p (hl p hp).1, sN p (hl p hp).1⟩)
  rcases List.mem_cons.mp hp with rfl | hp
  · exact ⟨(N8 _ (.head _)).1, Nat.ne_of_gt lS, (N8 _ (.head _)).2.2⟩
  rcases List.mem_cons.mp hp with rfl | hp
  · exact ⟨(N8 _ (.tail _ (.tail _ (.head _)))).1, Nat.ne_of_lt hlt0, (N8 _ (.tail _ (.tail _ (.head _)))).2.2⟩
  · exact ⟨(N8 p (.tail _ (.tail _ (.tail _ hp)))).1, hne p (hl p hp).1, (N8 p (.tail _ (.tail _ (.tail _ hp)))).2.2⟩
end
end Mine
end
section
open PySem PySem.W PyProof.Rows
example (prog : Program) (w : World) (A : Around) (E : Value → Shared → Prop) (s : Shared) (Q : Value → Shared → Prop) (h : wpAny (model prog w) A (compareOp .Eq (.int 1 0) (.int 2 0)) Q E s) : wpAny (model prog w) A (compareOp .Eq (.int 1 0) (.int 2 0)) Q E s := by
  w_top off
  k_with_none
  first
    | (walk1; fail)
    | exact h
end
section
open PySem PySem.W PyProof.Rows PySem.Spec PySem.Calls
set_option Elab.async false
set_option autoImplicit false
set_option maxRecDepth 100000
namespace Mine
section
variable {prog : Program} {w : World} {A : Around} {E : Value → Shared → Prop} {s : Shared} {env : Env} {h₀ : Heap} {L : Addr} {m : Str → Option Value} {news : List (Addr × Obj)}
noncomputable def AsgFin {β : Type} (K' : ItemKind β) (h₀ : Heap) (L : Addr) (m : Str → Option Value) (news : List (Addr × Obj)) (s₁ : Shared) (y : Str) (bs : List β) (Q : Flow → Shared → Prop) : Prop :=
  ∀ D ys n h' tk, Fr h₀ L h' (fun z => if z = y then some (.ref D) else m z) → News h₀ L h' ((D, W.listOf (List.toArray ys) n) :: news) → (∀ p ∈ news, @Ne Nat p.1 D) → AreOf K' ys bs → Q .next { s₁ with heap := h', toks := tk }
noncomputable def AsgSrc {α β : Type} (K : ItemKind α) (K' : ItemKind β) (prog : Program) (w : World) (A : Around) (h₀ : Heap) (L : Addr) (m : Str → Option Value) (env : Env) (scope : Scope) (x y : Str) (ifs : List Expr) (elt : Expr) (pz : α → Bool) (g : α → β) (Q : Flow → Shared → Prop) (xv : Value) (s₁ : Shared) : Prop :=
  ∃ ax vs as news, xv = .ref ax ∧ s₁.heap.IsList ax (List.toArray vs) ∧ AreOf K vs as ∧ vs.length ≤ sizeLine ∧ Fr h₀ L s₁.heap m ∧ News h₀ L s₁.heap news ∧
      (∀ C a v (s₃ : Shared) m₃ E', a ∈ as → K.is a v → s₃.heap.Ns C m₃ → m₃ x = some v → (∀ b o, s₁.heap.get? b = some o → s₃.heap.get? b = some o) →
        wpAny (model prog w) A (forIn ifs true fun c r => if r = true then do let ok ← isTrue c (compEnvC scope [] C env) (eval c (compEnvC scope [] C env)); pure (ForInStep.yield ok) else pure (ForInStep.yield r))
          (fun ok s₄ => ok = pz a ∧ Keeps s₃ s₄) E' s₃) ∧
      (∀ C a v (s₃ : Shared) m₃ E', a ∈ as → K.is a v → pz a = true → s₃.heap.Ns C m₃ → m₃ x = some v → Fr h₀ L s₃.heap m →
        wpAny (model prog w) A (eval elt (compEnvC scope [] C env)) (fun r s₄ => K'.is (g a) r ∧ Keeps s₃ s₄) E' s₃) ∧
      AsgFin K' h₀ L m news s₁ y ((as.filter pz).map g) Q
theorem assign_comp {α β : Type} {K : ItemKind α} {K' : ItemKind β} {elt iter : Expr} {x y : Str} {px py : Pos} {ifs : List Expr} {scope : Scope} {pos spos : Pos} {Q : Flow → Shared → Prop} (pz : α → Bool) (g : α → β) (_F₀ : Fr h₀ L s.heap m)
    (hsw : swapsWith (.ListComp elt [⟨.Name x px, iter, ifs, 0⟩] scope pos) (some (.Name y py)) spos.line env = pure true) (hL : env.locals = L)
    (hh : A.handled = none) (hclos : closureFor scope env = pure []) (hcell : ∀ z ∈ scope.names, z.2 ≠ .cell) (hkind : scope.kind = .function)
    (hnames : ∀ z ∈ scope.names, z.2 = .local → scope.names.lookup z.1 = some .local) (hx : scope.names.lookup x = some .local)
    (hy : env.kindOf y = some .local) (hp : (env.scope.kind == .class || (env.scope.kind == .module && env.locals != env.globals)) = false) (hs : ∀ x, foldedSetIterable iter env x = pure x)
    (h : wpAny (model prog w) A (eval iter env) (AsgSrc K K' prog w A h₀ L m env scope x y ifs elt pz g Q) E s) :
    wpAny (model prog w) A (exec (.Assign [.Name y py] (.ListComp elt [⟨.Name x px, iter, ifs, 0⟩] scope pos) spos) env) Q E s := by
  subst hL
  refine wpAny_Assign_ListComp_free (K.lift pz) (fun v y => ∃ a, K.is a v ∧ K'.is (g a) y) hsw hclos hcell hkind hnames hx hy hp (wpAny_mono h (fun xv s₁ h₁ => ?_) fun _ _ e => e) hs
  obtain ⟨ax, vs, as, news, rfl, hl, hi, hsz, F, N, htests, helt, hQ⟩ := h₁
  have hlt : ax < s₁.heap.objs.size := by obtain ⟨_, e, _⟩ := hl; exact Heap.lt_size e
  have up : ∀ (s₃ : Shared), (∀ b o, b ∉ [s₁.heap.objs.size] → (s₁.heap.push { cls := .type "list_iterator", data := .fields #[.ref ax, .int 0 0] }).get? b = some o → s₃.heap.get? b = some o) → ∀ b o, s₁.heap.get? b = some o → s₃.heap.get? b = some o :=
    fun s₃ hk b o e => hk b o (fun hm => by rcases List.mem_cons.mp hm with rfl | hm; exact Nat.lt_irrefl _ (Heap.lt_size e); cases hm) (Heap.get?_push_of_some _ e)
  refine wpAny_pyIter_list hl ⟨s₁.heap.objs.size, [s₁.heap.objs.size, ax], [s₁.heap.objs.size], vs.toArray.size, _, _, m, rfl, Walks.list hh _ _ (Nat.ne_of_lt hlt) vs.toArray, (by rw [List.size_toArray]; exact hsz), ⟨⟨_, Heap.get?_push_size _ rfl, rfl, rfl⟩, hl.push _⟩, ?_, ?_, F.ns.push _, ⟨?_, ?_⟩, ?_⟩
  · intro b hb
    show b < (s₁.heap.push _).objs.size
    rw [Heap.size_push]
    rcases List.mem_cons.mp hb with rfl | hb
    · exact Nat.lt_succ_self _
    · rcases List.mem_cons.mp hb with rfl | hb
      · exact Nat.lt_succ_of_lt hlt
      · cases hb
  · intro hm
    rcases List.mem_cons.mp hm with e | hm
    · exact Nat.lt_irrefl _ (e ▸ F.ns.lt)
    · cases hm
  · intro C i v s₃ m₃ E' _ hP hn hm hk _
    obtain ⟨a, hmem', ha⟩ := hi.get i v (by simpa using hP)
    rw [ItemKind.lift_is ha]
    exact htests C a v s₃ m₃ E' (List.mem_of_getElem? hmem') ha hn hm (up s₃ hk)
  · intro C i v s₃ m₃ E' _ hP hp' hn hm hk _
    obtain ⟨a, hmem', ha⟩ := hi.get i v (by simpa using hP)
    rw [ItemKind.lift_is ha] at hp'
    exact wpAny_mono (helt C a v s₃ m₃ E' (List.mem_of_getElem? hmem') ha hp' hn hm (F.keeps (up s₃ hk))) (fun y s₄ h₄ => ⟨⟨a, ha, h₄.1⟩, h₄.2⟩) fun _ _ e => e
  · intro D h' tk ys vs' hnew hlD hplD hlen hP hF hn' hk
    have e : vs' = vs := by simpa using list_of_places hlen hP
    subst e
    obtain ⟨nn, hpl⟩ := hplD
    have keep : ∀ b o, b ≠ env.locals → s₁.heap.get? b = some o → h'.get? b = some o := fun b o hb e =>
      hk b o hb (fun hm => by rcases List.mem_cons.mp hm with rfl | hm; exact Nat.lt_irrefl _ (Heap.lt_size e); cases hm) (Heap.get?_push_of_some _ e)
    have hD₀ : h₀.get? D = none := by
      cases e : h₀.get? D with
      | none => rfl
      | some o' => rw [Heap.get?_push_of_some _ (F.keep _ _ e)] at hnew; cases hnew
    have hDL : D ≠ env.locals := by
      rintro rfl
      obtain ⟨oL, _, _, e, _⟩ := F.ns
      rw [Heap.get?_push_of_some _ e] at hnew; cases hnew
    have off : ∀ p ∈ news, @Ne Nat p.1 D := fun p hp e => by
      have z := Heap.get?_push_of_some { cls := .type "list_iterator", data := .fields #[.ref ax, .int 0 0] } (N p hp).1
      have e' : p.1 = D := e
      rw [e', hnew] at z; cases z
    refine hQ D ys.toList nn h' tk ⟨hn', fun b o e => keep b o (Nat.ne_of_lt (Nat.lt_of_lt_of_le (Heap.lt_size e) F.above)) (F.keep b o e), F.above⟩ (fun p hp => ?_) off (pairedK pz g hi _ hF)
    rcases List.mem_cons.mp hp with rfl | hp
    · exact ⟨by rw [Array.toArray_toList]; exact hpl, hDL, hD₀⟩
    · exact ⟨keep _ _ (N p hp).2.1 (N p hp).1, (N p hp).2⟩
end
end Mine
end
section
open PySem PySem.W PyProof.Rows
example (prog : Program) (w : World) (A : Around) (E : Value → Shared → Prop) (s : Shared) (Q : Value → Shared → Prop) (h : wpAny (model prog w) A (compareOp .Eq (.int 1 0) (.int 2 0)) Q E s) : wpAny (model prog w) A (compareOp .Eq (.int 1 0) (.int 2 0)) Q E s := by
  w_top off
  k_with_none
  first
    | (walk1; fail)
    | exact h
end
section
open PySem PySem.W PyProof.Rows PySem.Spec PySem.Calls
set_option Elab.async false
set_option autoImplicit false
set_option maxRecDepth 100000
set_option maxHeartbeats 8000000
set_option pp.deepTerms false
set_option pp.deepTerms.threshold 8
set_option pp.fieldNotation false
namespace Mine
example : (PySem.Challenge.rw_il0160_01 = PySem.Challenge.rw_il0160_01 ∧ hd.heap_39 = hd.heap_39) := by k_fill; exact ⟨rfl, rfl⟩
noncomputable def sans (bs ds : List (Array UInt8)) : List (Array UInt8) := bs.filter fun x => !decide (x ∈ ds)
theorem BysAre.sans {vs : List Value} {bs : List (Array UInt8)} (h : BysAre vs bs) (ds : List (Array UInt8)) : BysAre (vs.filter fun v => !hasB ds v) (Mine.sans bs ds) := by
  unfold Mine.sans
  induction h with
  | nil => exact .nil
  | cons b t _ ih =>
    by_cases q : b ∈ ds
    · rw [List.filter_cons_of_neg (by simp [hasB, q]), List.filter_cons_of_neg (by simp [q])]; exact ih
    · rw [List.filter_cons_of_pos (by simp [hasB, q]), List.filter_cons_of_pos (by simp [q])]; exact .cons b t ih
section
theorem sieved_call {w : World} {loose : List Str} {mean : ExcName → Option Value} {mg mb : Str → Option Value} {news : List (Addr × Obj)}
    {dp un : Nat} {gd : Option (List Code)} {cn : Str} {cs : Scope} {a₁ : Addr} {ccd : Value} {h₀ : Heap} {L : Addr} {m : Str → Option Value} {s : Shared} {Q E : Value → Shared → Prop} {a b na nb : Nat} {vs ws : List Value} {bs ds : List (Array UInt8)}
    (F : Fr h₀ L s.heap m) (X : (hd.heap_39 w.params).In h₀) (N : News h₀ L s.heap news) (T : Top hd.view_39 loose mean mg mb h₀) (hk : cs.kind = .function) (hdp : dp + 6 < recursionLimit)
    (ha : (a, W.listOf vs.toArray na) ∈ news) (hb : (b, W.listOf ws.toArray nb) ∈ news) (hsv : vs.length ≤ 10) (hsw : ws.length ≤ 10) (hvs : BysAre vs bs) (hws : BysAre ws ds) (zb : ∀ x ∈ bs, x.size ≤ 16777216) (zd : ∀ x ∈ ds, x.size ≤ 16777216)
    (hret : ∀ (D G1 G2 G3 : Addr) (v1 v2 v3 : List Value) (n1 n2 n3 : Nat) (h' : Heap) (tk' : Nat), Fr h₀ L h' m →
      News h₀ L h' ((D, { cls := .type "tuple", data := .seq #[.ref G1, .ref G2, .ref G3] }) :: (G3, W.listOf v3.toArray n3) :: (G2, W.listOf v2.toArray n2) :: (G1, W.listOf v1.toArray n1) :: news) →
      BysAre v1 (sans ((sans bs ds).map drop11) (ds.map drop11)) → BysAre v2 (sans bs (sans bs ds)) → BysAre v3 (sans ((sans bs ds).map drop11) (sans ((sans bs ds).map drop11) (ds.map drop11))) → Q (.ref D) { s with heap := h', toks := tk' }) :
    wpAny (model (RowW.prog (OpenRow.toRowW (OpenLaw.row PySem.Challenge.rw_il0160_01))) w) (ktrTop dp un gd cn cs L a₁ ccd [] []) (call (.ref 153) [.ref a, .ref b]) Q E s := by
  k_with_none
  k_with "call ref" => (k_here; (with_reducible show wpAny _ _ (call (Value.ref 58) _) _ _ _); refine stopHere ?_)
  k_with "eval ListComp" => (k_here; (refine' comp_list (K := byK) (K' := byK) (fun _ => true) drop11 ?F (by with_unfolding_all rfl) (by decide) (by decide) (by with_unfolding_all rfl) (by decide) (by with_unfolding_all rfl) (by intro _; with_unfolding_all rfl) ?_); (case F => k_asm); k_whole)
  k_with "eval Name" => (k_here; (with_reducible show wpAny _ _ (eval (Expr.Name _ _) (compEnvC _ _ _ _)) _ _ _); k_dflt (refine own_ld (by assumption) (by assumption) ?_ (by rfl) (by rfl) (by decide)))
  k_with "eval Name" => (k_here; (with_reducible show wpAny _ _ (eval (Expr.Name _ _) (compEnv _ _ _)) _ _ _); k_dflt (refine cm_own (by assumption) (by assumption) ?_ (by rfl) (by rfl) (by decide)))
  k_with "subscriptTail" => (k_here; (with_reducible show wpAny _ _ (subscriptTail _ (Expr.Slice _ _ none _) (Value.bytes _ _) (Value.ref _)) _ _ _); (rename Fr _ _ _ _ => F'); (refine slice11 (s := ⟨_, _, _, _, _⟩) F' (by assumption) ?_ (by with_unfolding_all rfl) (by intro _; with_unfolding_all rfl)); intro h7 t7 k7 hk7; (try dsimp only); (try k_fold))
  k_with "exec Assign cons ListComp" => (k_here; (with_reducible show wpAny _ _ (exec (Stmt.Assign _ _ _) _) _ _ _); refine stopHere ?_)
  refine wpAny_call ?_
  refine enter_led F X N T (by k_is) (by k_is) (by show dp < _; omega) (by first | exact binds_K (by k_in) rfl (by k_is) rfl rfl rfl | exact BindsTo.of_eq rfl) (locs rfl) ?_
  intro oL L1 h1 C0 hlt sN hne F1 N1
  try dsimp only
  k_steps
  rename Fr _ _ _ _ => F2
  rename News _ _ _ _ => N2
  dsimp only [StopHere]
  refine filter_led F2 X N2 T (by rfl) C0 (.head _) hlt hk (by ktr_room) (.tail _ ha) (.tail _ hb) (by rw [sizeLine_eq]; omega) hvs hws ?_
  intro G n3 h3 tk3 sl3 F3 N3 l3
  replace N3 := N3 news (fun p hp => ⟨.tail _ hp, hne p hp⟩)
  k_steps
  dsimp only [StopHere]
  refine assign_comp (K := byK) (K' := byK) (fun _ => true) drop11 (by k_asm) (by with_unfolding_all rfl) rfl (by with_unfolding_all rfl) (by with_unfolding_all rfl) (by decide) (by with_unfolding_all rfl) (by decide) (by with_unfolding_all rfl) (by with_unfolding_all rfl) (by with_unfolding_all rfl) (by intro _; with_unfolding_all rfl) ?_
  k_steps
  dsimp only [AsgSrc]
  (refine' ⟨_, _, _, _, rfl, ?l, (hvs.sans ds).are, ?z, by k_asm, by k_asm, ?tests, ?elt, ?_⟩)
  case l => is_list
  case z => exact Nat.le_trans (List.length_filter_le _ _) (by rw [sizeLine_eq]; omega)
  case tests => exact fun C9 a9 v9 s9 m9 E9 ha9 hi9 hn9 hm9 hF9 => wpAny_tests_nil ⟨rfl, s9.heap, s9.toks, rfl, fun _ _ e9 => e9⟩
  case elt =>
    intro C9 a9 v9 s9 m9 E9 ha9 hi9 _ hn9 hm9 hF9
    obtain ⟨u9, rfl⟩ := hi9
    have hz9 : a9.size ≤ 16777216 := zb _ (List.mem_filter.mp ha9).1
    clear ha9
    k_steps
    all_goals (first | exact ⟨_, rfl⟩ | exact ⟨_, _, rfl, by assumption⟩)
  intro G2 ys2 n4 h4 tk4 F4 N4 off4 ha4
  rw [List.filter_eq_self.mpr (fun _ _ => rfl)] at ha4
  try dsimp only
  k_steps
  (refine' ⟨_, _, _, _, rfl, ?l, hws.are, ?z, by k_asm, by k_asm, ⟨?tests, ?elt⟩, ?_⟩)
  case l =>
    rename News _ _ _ _ => N8
    exact ⟨_, (N8 _ (.tail _ (.tail _ (.tail _ hb)))).1, rfl, _, rfl⟩
  case z => rw [sizeLine_eq]; omega
  case tests => exact fun C9 a9 v9 s9 m9 E9 ha9 hi9 hn9 hm9 hF9 => wpAny_tests_nil ⟨rfl, s9.heap, s9.toks, rfl, fun _ _ e9 => e9⟩
  case elt =>
    intro C9 a9 v9 s9 m9 E9 ha9 hi9 _ hn9 hm9 hF9
    obtain ⟨u9, rfl⟩ := hi9
    have hz9 : a9.size ≤ 16777216 := zd _ ha9
    clear ha9
    k_steps
    all_goals (first | exact ⟨_, rfl⟩ | exact ⟨_, _, rfl, by assumption⟩)
  intro D5 ys5 n5 h5 tk5 F5 N5 off5 ha5
  rw [List.filter_eq_self.mpr (fun _ _ => rfl)] at ha5
  try dsimp only
  k_steps
  have B4 := bysAre_of ha4
  have B5 := bysAre_of ha5
  have s4 : ys2.length ≤ 10 := by
    rw [B4.length, List.length_map]
    exact Nat.le_trans (List.length_filter_le _ _) (by rw [← hvs.length]; exact hsv)
  dsimp only [StopHere]
  rename Fr _ _ _ _ => F6
  rename News _ _ _ _ => N6
  refine filter_led F6 X N6 T (by rfl) C0 (.tail _ (.tail _ (.tail _ (.head _)))) hlt hk (by ktr_room) (.tail _ (.head _)) (.head _) (by rw [sizeLine_eq]; omega) B4 B5 ?_
  intro G6 n6 h6 tk6 sl6 F7 N7 l7
  have lG : @Ne Nat G L := Nat.ne_of_gt (l3 (L, ({ oL with slots := oL.slots } : Obj)) (.head _))
  have lG2 : @Ne Nat G2 L := Ne.symm (off4 (L, ({ oL with slots := sl3 } : Obj)) (.tail _ (.head _)))
  have lD5 : @Ne Nat D5 L := Ne.symm (off5 (L, ({ oL with slots := sl3 } : Obj)) (.tail _ (.tail _ (.head _))))
  replace N7 := N7 ((D5, W.listOf ys5.toArray n5) :: (G2, W.listOf ys2.toArray n4) :: (G, W.listOf (vs.filter fun v => !hasB ds v).toArray n3) :: news) (by
    intro p hp
    rcases mo3 hp with rfl | rfl | rfl | hp
    · exact ⟨by repeat (first | exact .head _ | apply List.Mem.tail), lD5⟩
    · exact ⟨by repeat (first | exact .head _ | apply List.Mem.tail), lG2⟩
    · exact ⟨by repeat (first | exact .head _ | apply List.Mem.tail), lG⟩
    · exact ⟨by repeat (first | exact hp | apply List.Mem.tail), hne p hp⟩)
  have lG6 : @Ne Nat G6 L := Nat.ne_of_gt (l7 (L, ({ oL with slots := sl3 } : Obj)) (by simp))
  k_steps
  dsimp only [StopHere]
  rename Fr _ _ _ _ => F8
  rename News _ _ _ _ => N8
  refine filter_led F8 X N8 T (by rfl) C0 (.tail _ (.head _)) hlt hk (by ktr_room) (.tail _ (.tail _ (.tail _ (.tail _ (.tail _ ha))))) (.tail _ (.tail _ (.tail _ (.tail _ (.head _))))) (by rw [sizeLine_eq]; omega) hvs (hvs.sans ds) ?_
  intro G7 n7 h7 tk7 sl7 F9 N9 l9
  have lG7 : @Ne Nat G7 L := Nat.ne_of_gt (l9 (L, ({ oL with slots := sl6 } : Obj)) (by simp))
  have B6 := B4.sans (ds.map drop11)
  replace N9 := N9 ((G6, W.listOf (ys2.filter fun v => !hasB (ds.map drop11) v).toArray n6) :: (D5, W.listOf ys5.toArray n5) :: (G2, W.listOf ys2.toArray n4) :: (G, W.listOf (vs.filter fun v => !hasB ds v).toArray n3) :: news) (by
    intro p hp
    rcases mo4 hp with rfl | rfl | rfl | rfl | hp
    · exact ⟨by repeat (first | exact .head _ | apply List.Mem.tail), lG6⟩
    · exact ⟨by repeat (first | exact .head _ | apply List.Mem.tail), lD5⟩
    · exact ⟨by repeat (first | exact .head _ | apply List.Mem.tail), lG2⟩
    · exact ⟨by repeat (first | exact .head _ | apply List.Mem.tail), lG⟩
    · exact ⟨by repeat (first | exact hp | apply List.Mem.tail), hne p hp⟩)
  k_steps
  dsimp only [StopHere]
  rename Fr _ _ _ _ => F10
  rename News _ _ _ _ => N10
  refine filter_led F10 X N10 T (by rfl) C0 (.tail _ (.head _)) hlt hk (by ktr_room) (.tail _ (.tail _ (.tail _ (.tail _ (.head _))))) (.tail _ (.tail _ (.head _))) (by rw [sizeLine_eq]; omega) B4 B6 ?_
  intro G8 n8 h8 tk8 sl8 F11 N11 l11
  have lG8 : @Ne Nat G8 L := Nat.ne_of_gt (l11 (L, ({ oL with slots := sl7 } : Obj)) (by simp))
  replace N11 := N11 ((G7, W.listOf (vs.filter fun v => !hasB (sans bs ds) v).toArray n7) :: (G6, W.listOf (ys2.filter fun v => !hasB (ds.map drop11) v).toArray n6) :: (D5, W.listOf ys5.toArray n5) :: (G2, W.listOf ys2.toArray n4) :: (G, W.listOf (vs.filter fun v => !hasB ds v).toArray n3) :: news) (by
    intro p hp
    rcases mo5 hp with rfl | rfl | rfl | rfl | rfl | hp
    · exact ⟨by repeat (first | exact .head _ | apply List.Mem.tail), lG7⟩
    · exact ⟨by repeat (first | exact .head _ | apply List.Mem.tail), lG6⟩
    · exact ⟨by repeat (first | exact .head _ | apply List.Mem.tail), lD5⟩
    · exact ⟨by repeat (first | exact .head _ | apply List.Mem.tail), lG2⟩
    · exact ⟨by repeat (first | exact .head _ | apply List.Mem.tail), lG⟩
    · exact ⟨by repeat (first | exact hp | apply List.Mem.tail), hne p hp⟩)
  k_steps
  rename Fr _ _ _ _ => F12
  rename News _ _ _ _ => N12
  have eL := (N12 _ (.tail _ (.tail _ (.head _)))).1
  refine hret _ G6 G7 G8 (ys2.filter fun v => !hasB (ds.map drop11) v) (vs.filter fun v => !hasB (sans bs ds) v) (ys2.filter fun v => !hasB (sans ((sans bs ds).map drop11) (ds.map drop11)) v) n6 n7 n8 _ _ ⟨C0.ns _ sl8 eL, F12.keep, F.above⟩ (fun p hp => ?_) B6 (hvs.sans _) (B4.sans _)
  rcases List.mem_cons.mp hp with rfl | hp
  · refine ⟨(N12 _ (.head _)).1, fun e => ?_, (N12 _ (.head _)).2.2⟩
    obtain ⟨es, ep, hd9⟩ := C0.dict
    have z := (N12 _ (.head _)).1
    rw [e, eL] at z
    have z' := congrArg Obj.data (Option.some.inj z)
    have z2 : oL.data = Data.seq _ _ := z'
    rw [hd9] at z2; cases z2
  · have hp' : p.1 ≠ L := by
      rcases mo3 hp with rfl | rfl | rfl | hp
      · exact lG8
      · exact lG7
      · exact lG6
      · exact hne p hp
    have hin := N12 p (by
      rcases mo3 hp with rfl | rfl | rfl | hp
      all_goals repeat (first | exact .head _ | exact hp | apply List.Mem.tail))
    exact ⟨hin.1, hp', hin.2.2⟩
end
end Mine
end
section
open PySem PySem.W PyProof.Rows
example (prog : Program) (w : World) (A : Around) (E : Value → Shared → Prop) (s : Shared) (Q : Value → Shared → Prop) (h : wpAny (model prog w) A (compareOp .Eq (.int 1 0) (.int 2 0)) Q E s) : wpAny (model prog w) A (compareOp .Eq (.int 1 0) (.int 2 0)) Q E s := by
  w_top off
  k_with_none
  first
    | (walk1; fail)
    | exact h
end
section
open PySem PySem.W PyProof.Rows PySem.Spec PySem.Calls
set_option Elab.async false
set_option autoImplicit false
set_option maxRecDepth 100000
set_option maxHeartbeats 1000000
namespace Mine
open PySem.SeqAt
theorem all_range (n : Nat) : (List.range n).all (fun _ => true) = true := by
  rw [List.all_eq_true]; intro _ _; rfl
section
variable {A : Around} {s : Shared} {h₀ : Heap} {L : Addr} {news : List (Addr × Obj)}
theorem eqAt_refs {l b : Addr} (h : RcAt A s (.ref l) (.ref b) true) : EqAt A s (.ref l) (.ref b) true := by
  by_cases e : l = b
  · subst e; exact EqAt.same _
  · exact EqAt.of_refs e h
theorem bysAre_at {vs ws : List Value} {bs : List (Array UInt8)} (h : BysAre vs bs) (h2 : BysAre ws bs) : ∀ j (h1 : j < vs.length) (h2 : j < ws.length), EqAt A s vs[j] ws[j] true := by
  induction h generalizing ws with
  | nil => intro j h1; cases h1
  | cons b t r ih =>
    cases h2 with
    | cons _ t' r' =>
      intro j h1 h2
      cases j with
      | zero =>
        have := eqAt_bytes (A := A) (s := s) b b t t'
        rw [decide_eq_true rfl] at this
        exact this
      | succ j => exact ih r' j (by simpa using h1) (by simpa using h2)
theorem bys_eq {l b : Addr} {vs ws : List Value} {bs : List (Array UInt8)} (hl : s.heap.IsList l vs.toArray) (hb : s.heap.IsList b ws.toArray) (h : BysAre vs bs) (h2 : BysAre ws bs) (hu : A.units < cLine) : RcAt A s (.ref l) (.ref b) true := by
  have r := RcAt.lists (e := fun _ => true) hl hb (by rw [List.size_toArray, List.size_toArray, h.length, h2.length]) hu (fun j h1 h3 => by
    have := bysAre_at (A := A.in1) (s := s) h h2 j (by simpa using h1) (by simpa using h3)
    simpa using this)
  rw [all_range] at r; exact r
theorem pair_eq (N : News h₀ L s.heap news) {T T' : Addr} {a b : Str} {t u t' u' : Tok} {n n' : Nat} (h : (T, pairObj a b t u n) ∈ news) (h' : (T', pairObj a b t' u' n') ∈ news) (hu : A.units < cLine) : RcAt A s (.ref T) (.ref T') true := by
  have r := RcAt.tuples (A := A) (e := fun _ => true) (show s.heap.IsTuple T #[.str a t, .str b u] from ⟨_, (N _ h).1, rfl, _, rfl⟩) (show s.heap.IsTuple T' #[.str a t', .str b u'] from ⟨_, (N _ h').1, rfl, _, rfl⟩) hu (fun j h1 _ => by
    match j, h1 with
    | 0, _ =>
      have := eqAt_str (A := A.in1) (s := s) a a t t'
      rw [decide_eq_true rfl] at this
      exact this
    | 1, _ =>
      have := eqAt_str (A := A.in1) (s := s) b b u u'
      rw [decide_eq_true rfl] at this
      exact this)
  rw [all_range] at r; exact r
theorem refsAre_at (N : News h₀ L s.heap news) {vs ws : List Value} {rs : List (Str × Str)} (h : RefsAre news vs rs) (h2 : RefsAre news ws rs) (hu : A.units < cLine) : ∀ j (h1 : j < vs.length) (h2 : j < ws.length), EqAt A s vs[j] ws[j] true := by
  induction h generalizing ws with
  | nil => intro j h1; cases h1
  | cons hm r ih =>
    cases h2 with
    | cons hm' r' =>
      intro j h1 h2
      cases j with
      | zero => exact eqAt_refs (pair_eq N hm hm' hu)
      | succ j => exact ih r' j (by simpa using h1) (by simpa using h2)
theorem refs_eq (N : News h₀ L s.heap news) {l b : Addr} {vs ws : List Value} {rs : List (Str × Str)} (hl : s.heap.IsList l vs.toArray) (hb : s.heap.IsList b ws.toArray) (h : RefsAre news vs rs) (h2 : RefsAre news ws rs) (hu : A.units + 1 < cLine) : RcAt A s (.ref l) (.ref b) true := by
  have r := RcAt.lists (A := A) (e := fun _ => true) hl hb (by rw [List.size_toArray, List.size_toArray, h.length, h2.length]) (by omega) (fun j h1 h3 => by
    have := refsAre_at (A := A.in1) N h h2 hu j (by simpa using h1) (by simpa using h3)
    simpa using this)
  rw [all_range] at r; exact r
end
section
variable {prog : Program} {w : World} {A : Around} {E : Value → Shared → Prop} {s : Shared} {Q : Value → Shared → Prop}
theorem five_at {a1 a2 a3 a4 a5 b1 b2 b3 b4 b5 : Value} (h1 : EqAt A s a1 b1 true) (h2 : EqAt A s a2 b2 true) (h3 : EqAt A s a3 b3 true) (h4 : EqAt A s a4 b4 true) (h5 : EqAt A s a5 b5 true) :
    ∀ j (k1 : j < #[a1, a2, a3, a4, a5].size) (k2 : j < #[b1, b2, b3, b4, b5].size), EqAt A s #[a1, a2, a3, a4, a5][j] #[b1, b2, b3, b4, b5][j] ((fun _ => true) j) := by
  intro j k1 k2
  match j, k1, k2 with
  | 0, _, _ => exact h1
  | 1, _, _ => exact h2
  | 2, _, _ => exact h3
  | 3, _, _ => exact h4
  | 4, _, _ => exact h5
theorem five_eq {l b : Addr} {a1 a2 a3 a4 a5 b1 b2 b3 b4 b5 : Value} (hl : s.heap.IsTuple l #[a1, a2, a3, a4, a5]) (hb : s.heap.IsTuple b #[b1, b2, b3, b4, b5]) (hu : A.units < cLine)
    (h1 : EqAt A.in1 s a1 b1 true) (h2 : EqAt A.in1 s a2 b2 true) (h3 : EqAt A.in1 s a3 b3 true) (h4 : EqAt A.in1 s a4 b4 true) (h5 : EqAt A.in1 s a5 b5 true) (h : Q (.bool true) s) :
    wpAny (model prog w) A (compareOp .Eq (.ref l) (.ref b)) Q E s := by
  have r := RcAt.tuples hl hb hu (five_at h1 h2 h3 h4 h5)
  rw [all_range] at r
  exact r prog w E Q h
theorem five_ne {l b : Addr} {a1 a2 a3 a4 a5 b1 b2 b3 b4 b5 : Value} (hl : s.heap.IsTuple l #[a1, a2, a3, a4, a5]) (hb : s.heap.IsTuple b #[b1, b2, b3, b4, b5]) (hu : A.units < cLine)
    (h1 : EqAt A.in1 s a1 b1 true) (h2 : EqAt A.in1 s a2 b2 true) (h3 : EqAt A.in1 s a3 b3 true) (h4 : EqAt A.in1 s a4 b4 true) (h5 : EqAt A.in1 s a5 b5 true) (h : Q (.bool false) s) :
    wpAny (model prog w) A (compareOp .NotEq (.ref l) (.ref b)) Q E s := by
  have r := RcNeAt.tuples hl hb hu (five_at h1 h2 h3 h4 h5)
  rw [all_range] at r
  exact r prog w E Q h
end
end Mine
end
section
open PySem PySem.W PyProof.Rows
example (prog : Program) (w : World) (A : Around) (E : Value → Shared → Prop) (s : Shared) (Q : Value → Shared → Prop) (h : wpAny (model prog w) A (compareOp .Eq (.int 1 0) (.int 2 0)) Q E s) : wpAny (model prog w) A (compareOp .Eq (.int 1 0) (.int 2 0)) Q E s := by
  w_top off
  k_with_none
  first
    | (walk1; fail)
    | exact h
end
section
open PySem PyProof.Rows
set_option autoImplicit false
namespace Mine
theorem and_bit (m k : Nat) : m &&& 2 ^ k = if m / 2 ^ k % 2 = 1 then 2 ^ k else 0 := by
  apply Nat.eq_of_testBit_eq
  intro i
  have ht : m.testBit k = decide (m / 2 ^ k % 2 = 1) := Nat.testBit_eq_decide_div_mod_eq
  rw [Nat.testBit_and, Nat.testBit_two_pow]
  by_cases e : k = i
  · subst e
    rw [ht]
    by_cases h : m / 2 ^ k % 2 = 1 <;> simp [h]
  · by_cases h : m / 2 ^ k % 2 = 1 <;> simp [h, e]
theorem iand_bit (f : Int) (k : Nat) (p : Nat) (hp : p = 2 ^ k) : Builtin.bitAnd f (p : Int) = if f / (p : Int) % 2 = 1 then (p : Int) else 0 := by
  subst hp
  have hpos : 0 < 2 ^ k := Nat.two_pow_pos k
  generalize hq : 2 ^ k = p at *
  by_cases hx : 0 ≤ f
  · rw [bitAnd_pp hx (by omega), Int.toNat_natCast, ← hq, and_bit, hq]
    have e : f / (p : Int) = ((f.toNat / p : Nat) : Int) := by
      rw [Int.natCast_ediv, Int.toNat_of_nonneg hx]
    rw [e]
    by_cases h : f.toNat / p % 2 = 1
    · rw [if_pos h, if_pos (by omega)]
    · rw [if_neg h, if_neg (by omega)]; rfl
  · rw [bitAnd_np hx (by omega), Int.toNat_natCast, ← hq, Nat.and_comm, and_bit, hq]
    have e : f / (p : Int) = -(((Builtin.bitNot f).toNat / p : Nat) : Int) - 1 := by
      have hm : f = -((Builtin.bitNot f).toNat : Int) - 1 := by
        unfold Builtin.bitNot; omega
      generalize (Builtin.bitNot f).toNat = m at hm
      subst hm
      have hd := Nat.div_add_mod m p
      have hlt := Nat.mod_lt m hpos
      generalize m / p = q at *
      generalize m % p = r at *
      refine Int.ediv_eq_iff_of_pos (by omega) |>.mpr ?_
      have hd' : (m : Int) = (p : Int) * (q : Int) + (r : Int) := by rw [← hd]; simp
      rw [hd']
      have e1 : (-(q : Int) - 1) * (p : Int) = -((p : Int) * q) - p := by
        rw [Int.sub_mul, Int.neg_mul, Int.one_mul, Int.mul_comm]
      rw [e1]
      constructor <;> omega
    rw [e]
    by_cases h : (Builtin.bitNot f).toNat / p % 2 = 1
    · rw [if_pos h, if_neg (by omega)]; omega
    · rw [if_neg h, if_pos (by omega)]; omega
end Mine
end
section
open PySem PySem.W PyProof.Rows
example (prog : Program) (w : World) (A : Around) (E : Value → Shared → Prop) (s : Shared) (Q : Value → Shared → Prop) (h : wpAny (model prog w) A (compareOp .Eq (.int 1 0) (.int 2 0)) Q E s) : wpAny (model prog w) A (compareOp .Eq (.int 1 0) (.int 2 0)) Q E s := by
  w_top off
  k_with_none
  first
    | (walk1; fail)
    | exact h
end
section
open PySem PyProof.Rows
set_option autoImplicit false
namespace Mine
theorem nand_two (m i j : Nat) (hd : (2 ^ i ||| 2 ^ j) = 2 ^ i + 2 ^ j) : m &&& (2 ^ i + 2 ^ j) = (m &&& 2 ^ i) + (m &&& 2 ^ j) := by
  rw [← hd, Nat.and_or_distrib_left, and_bit, and_bit]
  split <;> split <;> simp [hd]
theorem iand_add (f : Int) (x y : Nat) (h : ∀ m : Nat, m &&& (x + y) = (m &&& x) + (m &&& y)) : Builtin.bitAnd f ((x + y : Nat) : Int) = Builtin.bitAnd f (x : Int) + Builtin.bitAnd f (y : Int) := by
  by_cases hx : 0 ≤ f
  · rw [bitAnd_pp hx (by omega), bitAnd_pp hx (by omega), bitAnd_pp hx (by omega)]
    simp only [Int.toNat_natCast]
    rw [h]; simp
  · rw [bitAnd_np hx (by omega), bitAnd_np hx (by omega), bitAnd_np hx (by omega)]
    simp only [Int.toNat_natCast]
    rw [Nat.and_comm, h, Nat.and_comm x, Nat.and_comm y]; simp; omega
noncomputable def bitI (f p : Int) : Bool := decide (f / p % 2 = 1)
theorem and_pow (f : Int) (k : Nat) {p : Int} (hp : p = ((2 ^ k : Nat) : Int) := by rfl) : Builtin.bitAnd f p = if bitI f p then p else 0 := by
  subst hp
  have h := iand_bit f k _ rfl
  simpa [bitI] using h
theorem and_two (f : Int) (i j : Nat) {p q s : Int} (hd : (2 ^ i ||| 2 ^ j) = 2 ^ i + 2 ^ j := by decide) (hp : p = ((2 ^ i : Nat) : Int) := by rfl) (hq : q = ((2 ^ j : Nat) : Int) := by rfl) (hs : s = ((2 ^ i + 2 ^ j : Nat) : Int) := by rfl) :
    Builtin.bitAnd f s = Builtin.bitAnd f p + Builtin.bitAnd f q := by
  subst hp hq hs
  exact iand_add f (2 ^ i) (2 ^ j) fun m => nand_two m i j hd
theorem nand_high (m k j : Nat) : m &&& ((2 ^ j - 1) <<< k) = (m / 2 ^ k % 2 ^ j) <<< k := by
  apply Nat.eq_of_testBit_eq
  intro i
  rw [← Nat.shiftRight_eq_div_pow]
  simp only [Nat.testBit_and, Nat.testBit_shiftLeft, Nat.testBit_two_pow_sub_one, Nat.testBit_mod_two_pow, Nat.testBit_shiftRight]
  by_cases h : k ≤ i
  · rw [show k + (i - k) = i by omega]
    cases m.testBit i <;> simp [h]
  · simp [h]
theorem and_61440 (f : Int) : Builtin.bitAnd f 61440 = 4096 * (f / 4096 % 16) := by
  have hn : ∀ m : Nat, m &&& 61440 = 4096 * (m / 4096 % 16) := fun m => by
    have h := nand_high m 12 4
    rw [Nat.shiftLeft_eq, Nat.shiftLeft_eq] at h
    have e : ((2 ^ 4 - 1) * 2 ^ 12 : Nat) = 61440 := by decide
    rw [e] at h
    rw [h, Nat.mul_comm]
  by_cases hx : 0 ≤ f
  · rw [bitAnd_pp hx (by decide), show (61440 : Int).toNat = 61440 from rfl, hn]
    omega
  · rw [bitAnd_np hx (by decide), show (61440 : Int).toNat = 61440 from rfl, Nat.and_comm, hn]
    unfold Builtin.bitNot
    omega
end Mine
end
section
open PySem PySem.W PyProof.Rows
example (prog : Program) (w : World) (A : Around) (E : Value → Shared → Prop) (s : Shared) (Q : Value → Shared → Prop) (h : wpAny (model prog w) A (compareOp .Eq (.int 1 0) (.int 2 0)) Q E s) : wpAny (model prog w) A (compareOp .Eq (.int 1 0) (.int 2 0)) Q E s := by
  w_top off
  k_with_none
  first
    | (walk1; fail)
    | exact h
end
section
open PySem PySem.W PyProof.Rows PySem.Spec PySem.Calls
set_option autoImplicit false
set_option maxRecDepth 100000
namespace Mine
theorem fdiv_e (a : Int) {b : Int} (h : 0 ≤ b := by decide) : Int.fdiv a b = a / b := Int.fdiv_eq_ediv_of_nonneg a h
theorem fmod_e (a : Int) {b : Int} (h : 0 ≤ b := by decide) : Int.fmod a b = a % b := Int.fmod_eq_emod_of_nonneg a h
noncomputable def pickK (x : Int) : Nat := match (TABS.getD 0 []).find? (fun p => decide (x = p.1)) with
  | some p => p.2
  | none => 63
theorem pickK_all : ∀ K : Fin 16, charS (pickK (4096 * ((K.val : Nat) : Int))) = Txt.item (Str.ofString "?pc?d?b?-?l?s???") ((K.val : Nat) : Int) := by decide
theorem pick0 (f : Int) : charS (pickC f 0) = kindS f := by
  have e : pickC f 0 = pickK (Builtin.bitAnd f 61440) := rfl
  rw [e, and_61440 f]
  unfold kindS
  rw [fdiv_e, fmod_e]
  have h0 : 0 ≤ f / 4096 % 16 := Int.emod_nonneg _ (by decide)
  have h1 : f / 4096 % 16 < 16 := Int.emod_lt_of_pos _ (by decide)
  generalize f / 4096 % 16 = K at h0 h1
  obtain ⟨n, rfl⟩ := Int.eq_ofNat_of_zero_le h0
  exact pickK_all ⟨n, by omega⟩
theorem pick_plain (f : Int) (i : Nat) (b : Int) (c : Nat) (hT : TABS.getD (i + 1) [] = [(b, c)]) (hb : 0 < b) (h : Builtin.bitAnd f b = if bitI f b then b else 0) : pickC f (i + 1) = bif bitI f b then c else 45 := by
  unfold pickC
  rw [hT]
  simp only [List.find?_cons, List.find?_nil, hitB, Nat.add_eq_zero_iff, Nat.one_ne_zero, and_false, if_false, h]
  cases q : bitI f b with
  | true => simp
  | false => 
    have : ¬ (0 = b) := by omega
    simp [this]
noncomputable def codeX (c1 c2 c3 : Nat) (x u : Bool) : Nat := bif x then (bif u then c1 else c3) else (bif u then c2 else 45)
theorem pick_exec (f : Int) (i : Nat) (x u : Int) (c1 c2 c3 : Nat) (hT : TABS.getD (i + 1) [] = [(x + u, c1), (u, c2), (x, c3)]) (hx : 0 < x) (hu : 0 < u)
    (h1 : Builtin.bitAnd f (x + u) = Builtin.bitAnd f x + Builtin.bitAnd f u) (h2 : Builtin.bitAnd f x = if bitI f x then x else 0) (h3 : Builtin.bitAnd f u = if bitI f u then u else 0) :
    pickC f (i + 1) = codeX c1 c2 c3 (bitI f x) (bitI f u) := by
  unfold pickC codeX
  rw [hT]
  simp only [List.find?_cons, List.find?_nil, hitB, Nat.add_eq_zero_iff, Nat.one_ne_zero, and_false, if_false, h1, h2, h3]
  cases q : bitI f x <;> cases r : bitI f u
  · have k1 : ¬ (0 = x + u) := by omega
    have k2 : ¬ (0 = x) := by omega
    have k3 : ¬ (0 = u) := by omega
    simp [k1, k2, k3]
  · have k1 : ¬ (u = x + u) := by omega
    simp [k1]
  · have k1 : ¬ (x = x + u) := by omega
    have k3 : ¬ (0 = u) := by omega
    simp [k1, k3]
  · simp
theorem bit2 (x : Int) : x % 2 = if decide (x % 2 = 1) then 1 else 0 := by
  rcases Int.emod_two_eq x with h | h <;> simp [h]
theorem item_r : ∀ b : Bool, Txt.item (Str.ofString "-r") (if b then 1 else 0) = charS (bif b then 114 else 45) := by decide
theorem item_w : ∀ b : Bool, Txt.item (Str.ofString "-w") (if b then 1 else 0) = charS (bif b then 119 else 45) := by decide
theorem item_s : ∀ x u : Bool, Txt.item (Str.ofString "-xSs") ((if x then 1 else 0) + 2 * (if u then 1 else 0)) = charS (codeX 115 83 120 x u) := by decide
theorem item_t : ∀ x u : Bool, Txt.item (Str.ofString "-xTt") ((if x then 1 else 0) + 2 * (if u then 1 else 0)) = charS (codeX 116 84 120 x u) := by decide
theorem figure4 (g : Int) : g % 8 / 4 = g / 4 % 2 := by omega
theorem figure2 (g : Int) : g % 8 / 2 % 2 = g / 2 % 2 := by omega
theorem figure1 (g : Int) : g % 8 % 2 = g % 2 := by omega
theorem app_assoc (a b c : Str) : a ++ b ++ c = a ++ (b ++ c) := by
  have : (a.cps ++ b.cps) ++ c.cps = a.cps ++ (b.cps ++ c.cps) := Array.append_assoc
  exact congrArg Str.mk this
noncomputable def threeC (r w x : Nat) : Str := charS r ++ charS w ++ charS x
theorem bit_deep (f : Int) {p q r : Int} (hr : r = p * q := by rfl) (hp : 0 ≤ p := by decide) : decide (f / p / q % 2 = 1) = bitI f r := by
  subst hr
  rw [Int.ediv_ediv_of_nonneg hp]; rfl
theorem three_x (f : Int) (p r4 r2 s : Int) (ends : Str) (code : Bool → Bool → Nat) (hp : 0 ≤ p) (h4 : r4 = p * 4) (h2 : r2 = p * 2) (hi : ∀ x u : Bool, Txt.item ends ((if x then 1 else 0) + 2 * (if u then 1 else 0)) = charS (code x u)) :
    threeS (f / p % 8) (f / s % 2) ends = threeC (bif bitI f r4 then 114 else 45) (bif bitI f r2 then 119 else 45) (code (bitI f p) (bitI f s)) := by
  unfold threeS threeC
  rw [fdiv_e, fdiv_e, fmod_e, fmod_e, figure4, figure2, figure1, bit2 (f / p / 4), bit2 (f / p / 2), bit2 (f / p), bit2 (f / s), item_r, item_w, hi, bit_deep f h4 hp, bit_deep f h2 hp]
  rfl
theorem pickS (f : Int) : threeC (pickC f 1) (pickC f 2) (pickC f 3) = threeC (bif bitI f 256 then 114 else 45) (bif bitI f 128 then 119 else 45) (codeX 115 83 120 (bitI f 64) (bitI f 2048)) := by
  rw [pick_plain f 0 256 114 rfl (by decide) (and_pow f 8), pick_plain f 1 128 119 rfl (by decide) (and_pow f 7), pick_exec f 2 64 2048 115 83 120 rfl (by decide) (by decide) (and_two f 6 11) (and_pow f 6) (and_pow f 11)]
theorem pickG (f : Int) : threeC (pickC f 4) (pickC f 5) (pickC f 6) = threeC (bif bitI f 32 then 114 else 45) (bif bitI f 16 then 119 else 45) (codeX 115 83 120 (bitI f 8) (bitI f 1024)) := by
  rw [pick_plain f 3 32 114 rfl (by decide) (and_pow f 5), pick_plain f 4 16 119 rfl (by decide) (and_pow f 4), pick_exec f 5 8 1024 115 83 120 rfl (by decide) (by decide) (and_two f 3 10) (and_pow f 3) (and_pow f 10)]
theorem pickO (f : Int) : threeC (pickC f 7) (pickC f 8) (pickC f 9) = threeC (bif bitI f 4 then 114 else 45) (bif bitI f 2 then 119 else 45) (codeX 116 84 120 (bitI f 1) (bitI f 512)) := by
  rw [pick_plain f 6 4 114 rfl (by decide) (and_pow f 2), pick_plain f 7 2 119 rfl (by decide) (and_pow f 1), pick_exec f 8 1 512 116 84 120 rfl (by decide) (by decide) (and_two f 0 9) (and_pow f 0) (and_pow f 9)]
theorem rowS_eq (f : Int) : rowS f = charS (pickC f 0) ++ threeC (pickC f 1) (pickC f 2) (pickC f 3) ++ threeC (pickC f 4) (pickC f 5) (pickC f 6) ++ threeC (pickC f 7) (pickC f 8) (pickC f 9) := by
  unfold rowS
  rw [pickS, pickG, pickO, pick0]
  rw [fmod_e (Int.fdiv f 64), fdiv_e f (b := 64), fmod_e (Int.fdiv f 2048), fdiv_e f (b := 2048), fmod_e (Int.fdiv f 8), fdiv_e f (b := 8), fmod_e (Int.fdiv f 1024), fdiv_e f (b := 1024), fmod_e f (b := 8), fmod_e (Int.fdiv f 512), fdiv_e f (b := 512)]
  rw [three_x f 64 256 128 2048 _ _ (by decide) rfl rfl item_s, three_x f 8 32 16 1024 _ _ (by decide) rfl rfl item_s]
  have h := three_x f 1 4 2 512 _ _ (by decide) rfl rfl item_t
  rw [Int.ediv_one] at h
  rw [h]
end Mine
end
section
open PySem PySem.W PyProof.Rows
example (prog : Program) (w : World) (A : Around) (E : Value → Shared → Prop) (s : Shared) (Q : Value → Shared → Prop) (h : wpAny (model prog w) A (compareOp .Eq (.int 1 0) (.int 2 0)) Q E s) : wpAny (model prog w) A (compareOp .Eq (.int 1 0) (.int 2 0)) Q E s := by
  w_top off
  k_with_none
  first
    | (walk1; fail)
    | exact h
end
section
open PySem PySem.W PyProof.Rows PySem.Spec PySem.Calls
set_option autoImplicit false
set_option maxRecDepth 100000
namespace Mine
theorem modeS_row (f : Int) : modeS f = rowS f := by rw [modeS_eq, rowS_eq]; rfl
theorem lineM_line (p : Str × Int) : lineM p = lineS p := by unfold lineM lineS; rw [modeS_row]
theorem listRows_due (l : List (Str × Int)) : listRows l = dueRows l := by
  unfold listRows dueRows
  exact List.map_congr_left fun p _ => congrArg enc (lineM_line p)
theorem split_mod (f p : Int) (hp : 0 < p) : f % (p * 2) = f % p + p * (f / p % 2) := by
  have h1 := Int.emod_add_mul_ediv f p
  have h2 := Int.emod_add_mul_ediv (f / p) 2
  have e : f = (f % p + p * (f / p % 2)) + p * 2 * (f / p / 2) := by
    rw [Int.mul_assoc, Int.add_assoc, ← Int.mul_add, h2, h1]
  have b0 := Int.emod_nonneg f (Int.ne_of_gt hp)
  have b1 := Int.emod_lt_of_pos f hp
  generalize f / p / 2 = k at *
  generalize f / p = g at *
  generalize f % p = r at *
  rw [e, Int.add_mul_emod_self_left]
  rcases Int.emod_two_eq g with h | h <;> rw [h]
  · exact Int.emod_eq_of_lt (by omega) (by omega)
  · exact Int.emod_eq_of_lt (by omega) (by omega)
theorem up_mod {f g p q : Int} (hq : q = p * 2) (hp : 0 < p) (h : f % p = g % p) (hb : bitI f p = bitI g p) : f % q = g % q := by
  subst hq
  rw [split_mod f p hp, split_mod g p hp, h]
  unfold bitI at hb
  rw [decide_eq_decide] at hb
  have : f / p % 2 = g / p % 2 := by omega
  rw [this]
theorem sameB_iff (f g : Int) : sameB f g = true ↔ f % 4096 = g % 4096 ∧ kindS f = kindS g := by
  unfold sameB
  rw [Bool.and_eq_true, decide_eq_true_eq, decide_eq_true_eq, fmod_e]
  constructor
  · rintro ⟨h, k⟩; exact ⟨by omega, k⟩
  · rintro ⟨h, k⟩; exact ⟨by omega, k⟩
theorem div_mod_same {f g : Int} (h : f % 4096 = g % 4096) (p q r : Int) (hp : 0 < p) (e : 4096 = p * (q * r)) : Int.fmod (Int.fdiv f p) q = Int.fmod (Int.fdiv g p) q := by
  have hd : ∃ t, f = g + p * (q * (r * t)) := by
    refine ⟨f / 4096 - g / 4096, ?_⟩
    rw [← Int.mul_assoc q, ← Int.mul_assoc p, ← e]
    omega
  obtain ⟨t, rfl⟩ := hd
  rw [Int.fdiv_eq_ediv_of_nonneg _ (Int.le_of_lt hp), Int.fdiv_eq_ediv_of_nonneg _ (Int.le_of_lt hp), Int.add_mul_ediv_left _ _ (Int.ne_of_gt hp), Int.add_mul_fmod_self_left]
theorem row_same {f g : Int} (h : f % 4096 = g % 4096) (k : kindS f = kindS g) : rowS f = rowS g := by
  unfold rowS
  have e5 := div_mod_same h 1 8 512 (by decide) rfl
  have d1 : ∀ x : Int, Int.fdiv x 1 = x := fun x => by rw [fdiv_e, Int.ediv_one]
  rw [d1, d1] at e5
  rw [div_mod_same h 64 8 8 (by decide) rfl, div_mod_same h 2048 2 1 (by decide) rfl, div_mod_same h 8 8 64 (by decide) rfl, div_mod_same h 1024 2 2 (by decide) rfl, e5, div_mod_same h 512 2 4 (by decide) rfl, k]
theorem code_s : ∀ x u y v : Bool, codeX 115 83 120 x u = codeX 115 83 120 y v → x = y ∧ u = v := by decide
theorem code_t : ∀ x u y v : Bool, codeX 116 84 120 x u = codeX 116 84 120 y v → x = y ∧ u = v := by decide
theorem code_r : ∀ x y : Bool, (bif x then 114 else 45) = (bif y then 114 else 45) → x = y := by decide
theorem code_w : ∀ x y : Bool, (bif x then 119 else 45) = (bif y then 119 else 45) → x = y := by decide
theorem threeC_inj {a b c x y z : Nat} (h : threeC a b c = threeC x y z) : a = x ∧ b = y ∧ c = z := by
  have h' := congrArg (fun s : Str => s.cps.toList) h
  have e : ∀ a b c : Nat, (threeC a b c).cps.toList = [a, b, c] := fun _ _ _ => rfl
  simp only [e, List.cons.injEq, and_true] at h'
  exact h'
theorem app_inj {a b c d : Str} (hl : a.length = b.length) (h : a ++ c = b ++ d) : a = b ∧ c = d := by
  have h1 : (a ++ c).cps.toList = (b ++ d).cps.toList := by rw [h]
  rw [cps_app, cps_app, Array.toList_append, Array.toList_append] at h1
  have h2 := List.append_inj h1 (by simpa [Str.length] using hl)
  exact ⟨congrArg Str.mk (Array.toList_inj.mp h2.1), congrArg Str.mk (Array.toList_inj.mp h2.2)⟩
theorem rows_inj {a b c d e i j k l m a' b' c' d' e' i' j' k' l' m' : Nat} (h : charS a ++ threeC b c d ++ threeC e i j ++ threeC k l m = charS a' ++ threeC b' c' d' ++ threeC e' i' j' ++ threeC k' l' m') :
    a = a' ∧ threeC b c d = threeC b' c' d' ∧ threeC e i j = threeC e' i' j' ∧ threeC k l m = threeC k' l' m' := by
  have h' := congrArg (fun s : Str => s.cps.toList) h
  have q : ∀ a b c d e i j k l m : Nat, (charS a ++ threeC b c d ++ threeC e i j ++ threeC k l m).cps.toList = [a, b, c, d, e, i, j, k, l, m] := fun _ _ _ _ _ _ _ _ _ _ => rfl
  simp only [q, List.cons.injEq, and_true] at h'
  obtain ⟨rfl, rfl, rfl, rfl, rfl, rfl, rfl, rfl, rfl, rfl⟩ := h'
  exact ⟨rfl, rfl, rfl, rfl⟩
theorem row_inj {f g : Int} (h : rowS f = rowS g) : f % 4096 = g % 4096 ∧ kindS f = kindS g := by
  rw [rowS_eq, rowS_eq] at h
  obtain ⟨hk, hs, hg, ho⟩ := rows_inj h
  have hk : kindS f = kindS g := by rw [← pick0, ← pick0, hk]
  rw [pickS, pickS] at hs
  rw [pickG, pickG] at hg
  rw [pickO, pickO] at ho
  obtain ⟨s1, s2, s3⟩ := threeC_inj hs
  obtain ⟨g1, g2, g3⟩ := threeC_inj hg
  obtain ⟨o1, o2, o3⟩ := threeC_inj ho
  have s3 := code_s _ _ _ _ s3
  have g3 := code_s _ _ _ _ g3
  have o3 := code_t _ _ _ _ o3
  have z0 : f % 1 = g % 1 := by rw [Int.emod_one, Int.emod_one]
  have z1 : f % 2 = g % 2 := up_mod rfl (by decide) z0 o3.1
  have z2 : f % 4 = g % 4 := up_mod rfl (by decide) z1 (code_w _ _ o2)
  have z3 : f % 8 = g % 8 := up_mod rfl (by decide) z2 (code_r _ _ o1)
  have z4 : f % 16 = g % 16 := up_mod rfl (by decide) z3 g3.1
  have z5 : f % 32 = g % 32 := up_mod rfl (by decide) z4 (code_w _ _ g2)
  have z6 : f % 64 = g % 64 := up_mod rfl (by decide) z5 (code_r _ _ g1)
  have z7 : f % 128 = g % 128 := up_mod rfl (by decide) z6 s3.1
  have z8 : f % 256 = g % 256 := up_mod rfl (by decide) z7 (code_w _ _ s2)
  have z9 : f % 512 = g % 512 := up_mod rfl (by decide) z8 (code_r _ _ s1)
  have za : f % 1024 = g % 1024 := up_mod rfl (by decide) z9 o3.2
  have zb : f % 2048 = g % 2048 := up_mod rfl (by decide) za g3.2
  exact ⟨up_mod rfl (by decide) zb s3.2, hk⟩
theorem sameB_row (f g : Int) : sameB f g = true ↔ rowS f = rowS g := by
  rw [sameB_iff]
  exact ⟨fun h => row_same h.1 h.2, row_inj⟩
theorem enc_inj {a b : Str} (ha : isAsc a) (hb : isAsc b) (h : enc a = enc b) : a = b := by
  unfold enc at h
  have h1 : a.cps.toList.map Nat.toUInt8 = b.cps.toList.map Nat.toUInt8 := by
    have := congrArg Array.toList h
    simpa using this
  have h2 : a.cps.toList = b.cps.toList := by
    unfold isAsc at ha hb
    clear h
    generalize a.cps.toList = xs at *
    generalize b.cps.toList = ys at *
    induction xs generalizing ys with
    | nil => cases ys with
      | nil => rfl
      | cons y r => simp at h1
    | cons x xs ih => cases ys with
      | nil => simp at h1
      | cons y ys =>
        simp only [List.map_cons, List.cons.injEq] at h1
        have e1 := ha x (.head _)
        have e2 := hb y (.head _)
        have e3 := congrArg UInt8.toNat h1.1
        simp only [Nat.toUInt8, UInt8.toNat_ofNat'] at e3
        have : x = y := by omega
        rw [this, ih (fun c hc => ha c (.tail _ hc)) ys (fun c hc => hb c (.tail _ hc)) h1.2]
  have h3 : a.cps = b.cps := Array.toList_inj.mp h2
  exact congrArg Str.mk h3
theorem isAsc_of {p : Str × Int} (h : asc p = true) : isAsc p.1 := by
  intro c hc
  unfold asc at h
  have := Array.all_eq_true_iff_forall_mem.mp h c (by simpa using hc)
  simpa using this
theorem line_inj {p q : Str × Int} (hp : asc p = true) (hq : asc q = true) : enc (lineS p) = enc (lineS q) ↔ p.1 = q.1 ∧ sameB p.2 q.2 = true := by
  obtain ⟨k, v⟩ := p
  obtain ⟨k', v'⟩ := q
  constructor
  · intro h
    have h1 := enc_inj (isAsc_line (v := v) (isAsc_of hp)) (isAsc_line (v := v') (isAsc_of hq)) h
    unfold lineS at h1
    rw [app_assoc, app_assoc] at h1
    have h2 := app_inj (by rw [row_length, row_length]) h1
    have h3 := app_inj rfl h2.2
    exact ⟨h3.2, (sameB_row v v').mpr h2.1⟩
  · rintro ⟨h1, h2⟩
    have h3 := (sameB_row v v').mp h2
    dsimp only at h1
    unfold lineS
    rw [h3, h1]
theorem name_inj {p q : Str × Int} (hp : asc p = true) (hq : asc q = true) : enc p.1 = enc q.1 ↔ p.1 = q.1 :=
  ⟨enc_inj (isAsc_of hp) (isAsc_of hq), fun h => by rw [h]⟩
end Mine
end
section
open PySem PySem.W PyProof.Rows
example (prog : Program) (w : World) (A : Around) (E : Value → Shared → Prop) (s : Shared) (Q : Value → Shared → Prop) (h : wpAny (model prog w) A (compareOp .Eq (.int 1 0) (.int 2 0)) Q E s) : wpAny (model prog w) A (compareOp .Eq (.int 1 0) (.int 2 0)) Q E s := by
  w_top off
  k_with_none
  first
    | (walk1; fail)
    | exact h
end
section
open PySem PySem.W PyProof.Rows PySem.Spec PySem.Calls
set_option autoImplicit false
set_option maxRecDepth 100000
namespace Mine
abbrev Dct := List (Str × Int)
theorem look_mem {c : Dct} (hn : (c.map (·.1)).Nodup) {q : Str × Int} (h : q ∈ c) : kdpLook c q.1 0 = q.2 := by
  obtain ⟨i, hi⟩ := List.getElem?_of_mem h
  exact look_at hn (i := i) (k := q.1) (v := q.2) hi
theorem has_mem {c : Dct} {k : Str} (h : kdpHas c k = true) : ∃ q ∈ c, q.1 = k := by
  simp only [kdpHas, List.any_eq_true, decide_eq_true_eq] at h
  obtain ⟨q, hq, e⟩ := h
  exact ⟨q, hq, e⟩
theorem mem_has {c : Dct} {q : Str × Int} (h : q ∈ c) : kdpHas c q.1 = true := by
  simp only [kdpHas, List.any_eq_true, decide_eq_true_eq]
  exact ⟨q, h, rfl⟩
theorem asc_same {p q : Str × Int} (e : q.1 = p.1) : asc q = asc p := by unfold asc; rw [e]
theorem sameB_comm {a b : Int} (h : sameB a b = true) : sameB b a = true := (sameB_row b a).mpr ((sameB_row a b).mp h).symm
noncomputable def metB (o : Dct) (p : Str × Int) : Bool := kdpHas o p.1 && sameB p.2 (kdpLook o p.1 0)
noncomputable def rowB (p : Str × Int) : Array UInt8 := enc (lineS p)
noncomputable def namB (p : Str × Int) : Array UInt8 := enc p.1
theorem mem_rows {o : Dct} (hn : (o.map (·.1)).Nodup) {p : Str × Int} (hp : asc p = true) : (rowB p ∈ (o.filter asc).map rowB) ↔ metB o p = true := by
  unfold metB
  rw [Bool.and_eq_true]
  constructor
  · intro h
    obtain ⟨q, hq, e⟩ := List.mem_map.mp h
    obtain ⟨hqo, hqa⟩ := List.mem_filter.mp hq
    obtain ⟨e1, e2⟩ := (line_inj hqa hp).mp e
    refine ⟨by rw [← e1]; exact mem_has hqo, ?_⟩
    rw [← e1, look_mem hn hqo]
    exact sameB_comm e2
  · rintro ⟨h1, h2⟩
    obtain ⟨q, hq, e⟩ := has_mem h1
    have hqa : asc q = true := by rw [asc_same e]; exact hp
    rw [← e, look_mem hn hq] at h2
    exact List.mem_map.mpr ⟨q, List.mem_filter.mpr ⟨hq, hqa⟩, (line_inj hqa hp).mpr ⟨e, sameB_comm h2⟩⟩
theorem mem_names {P : Str × Int → Bool} {o : Dct} {p : Str × Int} (hp : asc p = true) (hP : ∀ q ∈ o, P q = true → asc q = true) : (namB p ∈ (o.filter P).map namB) ↔ ∃ q ∈ o, P q = true ∧ q.1 = p.1 := by
  constructor
  · intro h
    obtain ⟨q, hq, e⟩ := List.mem_map.mp h
    obtain ⟨hqo, hqa⟩ := List.mem_filter.mp hq
    exact ⟨q, hqo, hqa, (name_inj (hP q hqo hqa) hp).mp e⟩
  · rintro ⟨q, hq, hqP, e⟩
    exact List.mem_map.mpr ⟨q, List.mem_filter.mpr ⟨hq, hqP⟩, (name_inj (hP q hq hqP) hp).mpr e⟩
theorem sans_map {α : Type} (l : List α) (P R : α → Bool) (f : α → Array UInt8) (ds : List (Array UInt8)) (h : ∀ p ∈ l, P p = true → (f p ∈ ds ↔ R p = true)) : sans ((l.filter P).map f) ds = (l.filter fun p => P p && !R p).map f := by
  unfold sans
  induction l with
  | nil => rfl
  | cons p l ih =>
    have ih := ih fun q hq => h q (.tail _ hq)
    cases q : P p with
    | false => rw [List.filter_cons_of_neg (by simp [q]), List.filter_cons_of_neg (by simp [q])]; exact ih
    | true =>
      have e := h p (.head _) q
      rw [List.filter_cons_of_pos (by simp [q]), List.map_cons]
      cases r : R p with
      | false =>
        have hm : ¬ f p ∈ ds := fun z => by rw [e, r] at z; cases z
        rw [List.filter_cons_of_pos (by simp [hm]), List.filter_cons_of_pos (by simp [q, r]), List.map_cons, ih]
      | true =>
        have hm : f p ∈ ds := e.mpr r
        rw [List.filter_cons_of_neg (by simp [hm]), List.filter_cons_of_neg (by simp [q, r]), ih]
theorem drop_rows (P : Str × Int → Bool) (l : Dct) : ((l.filter P).map rowB).map drop11 = (l.filter P).map namB := by
  rw [List.map_map]
  exact List.map_congr_left fun p _ => drop_line (row_length p.2)
theorem due_rows (c : Dct) : dueRows c = (c.filter asc).map rowB := rfl
theorem gone_eq {c o : Dct} (ho : (o.map (·.1)).Nodup) : sans (dueRows c) (dueRows o) = (c.filter fun p => asc p && !metB o p).map rowB := by
  rw [due_rows, due_rows]
  exact sans_map c asc (metB o) rowB _ fun p _ hp => mem_rows ho hp
theorem only_eq {c o : Dct} (ho : (o.map (·.1)).Nodup) : sans ((sans (dueRows c) (dueRows o)).map drop11) ((dueRows o).map drop11) = dueOnly o c := by
  rw [gone_eq ho, drop_rows, due_rows o, drop_rows]
  rw [sans_map c _ (fun p => kdpHas o p.1) namB]
  · unfold dueOnly
    show _ = List.map namB _
    congr 1
    refine List.filter_congr fun p _ => ?_
    unfold metB
    cases asc p <;> cases kdpHas o p.1 <;> simp
  · intro p _ hp
    have hpa : asc p = true := by
      rw [Bool.and_eq_true] at hp; exact hp.1
    rw [mem_names hpa fun _ _ h => h]
    constructor
    · rintro ⟨q, hq, _, e⟩
      rw [← e]; exact mem_has hq
    · intro h
      obtain ⟨q, hq, e⟩ := has_mem h
      exact ⟨q, hq, by rw [asc_same e]; exact hpa, e⟩
theorem uniq {c : Dct} (hn : (c.map (·.1)).Nodup) {p q : Str × Int} (hp : p ∈ c) (hq : q ∈ c) (e : q.1 = p.1) : q = p := by
  have h1 := look_mem hn hp
  have h2 := look_mem hn hq
  rw [e, h1] at h2
  exact Prod.ext e h2.symm
theorem same_eq {c o : Dct} (hc : (c.map (·.1)).Nodup) (ho : (o.map (·.1)).Nodup) : sans (dueRows c) (sans (dueRows c) (dueRows o)) = dueSame o c := by
  rw [gone_eq ho, due_rows c]
  rw [sans_map c asc (fun p => !metB o p) rowB]
  · unfold dueSame
    show _ = List.map rowB _
    congr 1
    refine List.filter_congr fun p _ => ?_
    unfold metB
    rw [Bool.not_not]
  · intro p hp hpa
    constructor
    · intro h
      obtain ⟨q, hq, e⟩ := List.mem_map.mp h
      obtain ⟨hqc, hqP⟩ := List.mem_filter.mp hq
      rw [Bool.and_eq_true] at hqP
      obtain ⟨e1, _⟩ := (line_inj hqP.1 hpa).mp e
      rw [← uniq hc hp hqc e1]
      exact hqP.2
    · intro h
      exact List.mem_map.mpr ⟨p, List.mem_filter.mpr ⟨hp, by rw [Bool.and_eq_true]; exact ⟨hpa, h⟩⟩, rfl⟩
theorem chg_eq {c o : Dct} (ho : (o.map (·.1)).Nodup) : sans ((sans (dueRows c) (dueRows o)).map drop11) (sans ((sans (dueRows c) (dueRows o)).map drop11) ((dueRows o).map drop11)) = dueChg o c := by
  rw [only_eq ho, gone_eq ho, drop_rows]
  rw [sans_map c _ (fun p => !kdpHas o p.1) namB]
  · unfold dueChg
    show _ = List.map namB _
    congr 1
    refine List.filter_congr fun p _ => ?_
    unfold metB
    cases asc p <;> cases kdpHas o p.1 <;> simp
  · intro p hp hpP
    have hpa : asc p = true := by
      rw [Bool.and_eq_true] at hpP; exact hpP.1
    show namB p ∈ List.map namB _ ↔ _
    rw [mem_names hpa fun q _ h => by rw [Bool.and_eq_true] at h; exact h.1]
    constructor
    · rintro ⟨q, hq, h, e⟩
      rw [Bool.and_eq_true] at h
      rw [← e]; exact h.2
    · intro h
      exact ⟨p, hp, by rw [Bool.and_eq_true]; exact ⟨hpa, h⟩, rfl⟩
end Mine
end
section
open PySem PySem.W PyProof.Rows
example (prog : Program) (w : World) (A : Around) (E : Value → Shared → Prop) (s : Shared) (Q : Value → Shared → Prop) (h : wpAny (model prog w) A (compareOp .Eq (.int 1 0) (.int 2 0)) Q E s) : wpAny (model prog w) A (compareOp .Eq (.int 1 0) (.int 2 0)) Q E s := by
  w_top off
  k_with_none
  first
    | (walk1; fail)
    | exact h
end
section
open PySem PySem.W PyProof.Rows PySem.Spec PySem.Calls
set_option Elab.async false
set_option autoImplicit false
set_option maxRecDepth 100000
set_option maxHeartbeats 8000000
set_option pp.deepTerms false
set_option pp.deepTerms.threshold 8
set_option pp.fieldNotation false
namespace Mine
theorem bysAre_app {vs ws : List Value} {bs ds : List (Array UInt8)} (h : BysAre vs bs) (h2 : BysAre ws ds) : AreOf byK (vs ++ ws) (bs ++ ds) := by
  induction h with
  | nil => exact h2.are
  | cons b t _ ih => exact .cons ⟨t, rfl⟩ ih
theorem rows_fit {c : List (Str × Int)} (h : NamesOk c) : ∀ x ∈ listRows c, x.size ≤ 16777216 := by
  intro x hx
  obtain ⟨p, hp, rfl⟩ := List.mem_map.mp hx
  obtain ⟨ch, e, _⟩ := h p (List.mem_filter.mp hp).1
  obtain ⟨k, v⟩ := p
  have e' : k = ⟨#[ch]⟩ := e
  subst e'
  rw [enc_size, lineM, lenM rfl]; decide
theorem tupAt {h₀ h : Heap} {L T : Addr} {news : List (Addr × Obj)} {xs : Array Value} {n : Nat} (N : News h₀ L h news) (hm : (T, ({ cls := .type "tuple", data := .seq xs n } : Obj)) ∈ news) : h.IsTuple T xs := ⟨_, (N _ hm).1, rfl, _, rfl⟩
theorem lstAt {h₀ h : Heap} {L T : Addr} {news : List (Addr × Obj)} {vs : List Value} {n : Nat} (N : News h₀ L h news) (hm : (T, W.listOf vs.toArray n) ∈ news) : h.IsList T vs.toArray := ⟨_, (N _ hm).1, rfl, _, rfl⟩
theorem mem_skip6 {p a b c d e f : Addr × Obj} {r : List (Addr × Obj)} (h : p ∈ r) : p ∈ a :: b :: c :: d :: e :: f :: r := .tail _ (mem_skip5 h)
theorem law_holds : PySem.Challenge.rw_il0160_01.Holds := by
  k_with_none
  k_with "call ref" => (k_here; (with_reducible show wpAny _ _ (call (Value.ref _) _) _ _ _); refine stopHere ?_)
  k_with "eval Name" => (k_here; (with_reducible show wpAny _ _ (eval (Expr.Name _ _) (compEnv _ _ _)) _ _ _); k_dflt (first
  | refine cm_own (by assumption) (by assumption) ?_ (by rfl) (by rfl) (by decide)
  | refine cm_built (by assumption) (by k_asm) (by k_asm) (by k_is) (by boot_by_name) (by decide) ?_ (by rfl) (by rfl) (by rfl) (by rfl) (by decide)))
  k_with "eval ListComp" => (k_here; (refine' comp_list (K := byK) (K' := byK) (fun _ => false) id ?F (by with_unfolding_all rfl) (by decide) (by decide) (by with_unfolding_all rfl) (by decide) (by with_unfolding_all rfl) (by intro _; with_unfolding_all rfl) ?_); (case F => k_asm); k_whole)
  refine hd ?_
  k_go0
  all_goals try k_fold
  k_steps
  dsimp only [StopHere]
  rename Fr _ _ _ _ => F1
  rename News _ _ _ _ => N1
  rename Frag.In _ _ => X1
  rename Top _ _ _ _ _ _ => T1
  refine sides_call (below_caller _) F1 X1 N1 T1 (by rfl) (by assumption) (by assumption) (by assumption) (by ktr_room) (by decide) ?_
  intro D a b oa ob ka kb ca cb h2 tk2 F2 N2 lo1 d1 f1 n1 z1 lo2 d2 f2 n2 z2
  have DA : ∀ nw : List (Addr × Obj), (a, oa) ∈ nw → DF _ _ nw a oa ka ca := fun nw hm => ⟨hm, lo1, d1, f1, n1, Nat.le_succ_of_le z1⟩
  have DB : ∀ nw : List (Addr × Obj), (b, ob) ∈ nw → DF _ _ nw b ob kb cb := fun nw hm => ⟨hm, lo2, d2, f2, n2, z2⟩
  have nodA := (DA _ (.head [])).nod
  have nodB := (DB _ (.head [])).nod
  have rowA := rows_fit n1
  have rowB' := rows_fit n2
  rw [listRows_due] at rowA rowB'
  have smA : (dueRows ca).length ≤ 10 := by
    rw [dueRows, List.length_map]; exact Nat.le_trans (List.length_filter_le _ _) (Nat.le_succ_of_le z1)
  have smB : (dueRows cb).length ≤ 10 := by
    rw [dueRows, List.length_map]; exact Nat.le_trans (List.length_filter_le _ _) z2
  clear lo1 d1 f1 n1 z1 lo2 d2 f2 n2 z2
  k_steps
  dsimp only [StopHere]
  rename Fr _ _ _ _ => F3
  rename News _ _ _ _ => N3
  refine listed_call (c := ca) F3 X1 N3 T1 (by rfl) (by ktr_room) (DA _ (by k_mem)) (by decide) ?_
  intro D4 R1 R2 v1 v2 k1 k2 rest4 h4 tk4 F4 N4 sub4 A1 A2
  have m4 := sub4 _ (show (b, ob) ∈ _ by k_mem)
  have m4a := sub4 _ (show (a, oa) ∈ _ by k_mem)
  k_steps
  dsimp only [StopHere]
  rename Fr _ _ _ _ => F5
  rename News _ _ _ _ => N5
  refine listed_call (c := cb) F5 X1 N5 T1 (by rfl) (by ktr_room) (DB _ (.tail _ (.tail _ (.tail _ m4)))) (by decide) ?_
  intro D6 R3 R4 v3 v4 k3 k4 rest6 h6 tk6 F6 N6 sub6 A3 A4
  have m6 := sub6 (R1, W.listOf v1.toArray k1) (by k_mem)
  replace N6 := news_cons (.tail _ (.tail _ (.tail _ m6))) N6
  k_steps
  rename Fr _ _ _ _ => F7
  rename News _ _ _ _ => N7
  rw [listRows_due] at A1 A3
  have q1 := A1.length
  have q3 := A3.length
  have w1 : v1.length ≤ 10 := by rw [q1]; exact smA
  have w3 : v3.length ≤ 10 := by rw [q3]; exact smB
  refine add_lists F7 N7 ⟨_, (N7 (R1, W.listOf v1.toArray k1) (by simp)).1, rfl, _, rfl⟩ ⟨_, (N7 (R3, W.listOf v3.toArray k3) (by simp)).1, rfl, _, rfl⟩ (fun h8 F8 N8 => ?_) (by rw [sizeLine_eq]; omega)
  k_steps
  (refine' ⟨_, _, _, _, rfl, ?l, bysAre_app A1 A3, ?z, by k_asm, by k_asm, ⟨?tests, ?elt⟩, ?_⟩)
  case l =>
    rename News _ _ _ _ => N9
    exact ⟨_, (N9 _ (.head _)).1, rfl, _, rfl⟩
  case z => rw [List.length_append, sizeLine_eq]; omega
  case elt => exact fun C9 a9 v9 s9 m9 E9 ha9 hi9 hz => nomatch hz
  case tests =>
    intro C9 a9 v9 s9 m9 E9 ha9 hi9 hn9 hm9 hF9
    obtain ⟨u9, rfl⟩ := hi9
    clear ha9
    refine wpAny_tests_one ?_
    k_steps
    all_goals exact ⟨_, _, rfl, fun _ _ e9 => e9⟩
  intro D10 ys10 n10 h10 tk10 F10 N10 off10 ha10
  rw [List.filter_eq_nil_iff.mpr (by simp)] at ha10
  obtain rfl : ys10 = [] := by cases ha10; rfl
  try dsimp only
  k_steps
  dsimp only [StopHere]
  rename Fr _ _ _ _ => F11
  rename News _ _ _ _ => N11
  refine sieved_call F11 X1 N11 T1 (by rfl) (by ktr_room) (show (R1, W.listOf v1.toArray k1) ∈ _ by k_mem) (show (R3, W.listOf v3.toArray k3) ∈ _ by k_mem) w1 w3 A1 A3 rowA rowB' ?_
  intro D12 G1 G2 G3 g1 g2 g3 j1 j2 j3 h12 tk12 F12 N12 B1 B2 B3
  k_steps
  dsimp only [StopHere]
  rename Fr _ _ _ _ => F14
  rename News _ _ _ _ => N14
  have m6b := sub6 _ (.tail _ (.tail _ (.tail _ m4)))
  have m6a := sub6 _ (.tail _ (.tail _ (.tail _ m4a)))
  refine due_call (c := ca) (c2 := cb) (below_caller _) F14 X1 N14 T1 (by rfl) (by ktr_room) (DA _ (by repeat (first | exact m6a | apply List.Mem.tail))) (DB _ (by repeat (first | exact m6b | apply List.Mem.tail))) ?_
  intro D15 S1 S2 S3 S4 S5 u1 u2 u3 u4 u5 p1 p2 p3 p4 p5 rest15 h15 tk15 F15 N15 sub15 E1 E2 E3 E4 E5
  k_steps
  rename Fr _ _ _ _ => F16
  rename News _ _ _ _ => N16
  rw [only_eq nodB] at B1
  rw [same_eq nodA nodB] at B2
  rw [chg_eq nodB] at B3
  have s6 : ∀ p ∈ rest6, p ∈ rest15 := fun p hp => sub15 p (by repeat (first | exact hp | apply List.Mem.tail))
  have s4 : ∀ p ∈ rest4, p ∈ rest15 := fun p hp => s6 p (sub6 p (.tail _ (.tail _ (.tail _ hp))))
  have r1 : (R1, W.listOf v1.toArray k1) ∈ rest15 := s6 _ m6
  have r2 : (R2, W.listOf v2.toArray k2) ∈ rest15 := s6 _ (sub6 _ (.tail _ (.head _)))
  have r3 : (R3, W.listOf v3.toArray k3) ∈ rest15 := sub15 _ (by repeat (first | exact .head _ | apply List.Mem.tail))
  have r4 : (R4, W.listOf v4.toArray k4) ∈ rest15 := sub15 _ (by repeat (first | exact .head _ | apply List.Mem.tail))
  have AA2 : RefsAre rest15 v2 (dueRef ca) := A2.mono s4
  have AA4 : RefsAre rest15 v4 (dueRef cb) := A4.mono s6
  refine five_ne (a1 := .ref R1) (a2 := .ref R2) (a3 := .ref G1) (a4 := .ref G2) (a5 := .ref G3) (tupAt N16 (mem_skip6 (sub15 _ (.head _)))) (tupAt N16 (.head _)) (by ke_room)
    (eqAt_refs (bys_eq (lstAt N16 (mem_skip6 r1)) (lstAt N16 (.tail _ (.tail _ (.tail _ (.tail _ (.tail _ (.head _))))))) A1 E1 (by ke_room)))
    (eqAt_refs (refs_eq N16 (lstAt N16 (mem_skip6 r2)) (lstAt N16 (.tail _ (.tail _ (.tail _ (.tail _ (.head _)))))) (AA2.mono fun _ h => mem_skip6 h) (E2.mono fun _ h => mem_skip6 h) (by ke_room)))
    (eqAt_refs (bys_eq (lstAt N16 (mem_skip6 (sub15 _ (.tail _ (.tail _ (.tail _ (.tail _ (.head _)))))))) (lstAt N16 (.tail _ (.tail _ (.tail _ (.head _))))) B1 E3 (by ke_room)))
    (eqAt_refs (bys_eq (lstAt N16 (mem_skip6 (sub15 _ (.tail _ (.tail _ (.tail _ (.head _))))))) (lstAt N16 (.tail _ (.tail _ (.head _)))) B2 E4 (by ke_room)))
    (eqAt_refs (bys_eq (lstAt N16 (mem_skip6 (sub15 _ (.tail _ (.tail _ (.head _)))))) (lstAt N16 (.tail _ (.head _))) B3 E5 (by ke_room))) ?_
  k_steps
  dsimp only [StopHere]
  rename Fr _ _ _ _ => F17
  rename News _ _ _ _ => N17
  refine sieved_call F17 X1 N17 T1 (by rfl) (by ktr_room) (show (R3, W.listOf v3.toArray k3) ∈ _ by repeat (first | exact r3 | apply List.Mem.tail)) (show (R1, W.listOf v1.toArray k1) ∈ _ by repeat (first | exact r1 | apply List.Mem.tail)) w3 w1 A3 A1 rowB' rowA ?_
  intro D18 H1 H2 H3 y1 y2 y3 i1 i2 i3 h18 tk18 F18 N18 B4 B5 B6
  k_steps
  dsimp only [StopHere]
  rename Fr _ _ _ _ => F19
  rename News _ _ _ _ => N19
  rw [only_eq nodA] at B4
  rw [same_eq nodB nodA] at B5
  rw [chg_eq nodA] at B6
  refine due_call (c := cb) (c2 := ca) (below_caller _) F19 X1 N19 T1 (by rfl) (by ktr_room) (DB _ (by repeat (first | exact s6 _ m6b | apply List.Mem.tail))) (DA _ (by repeat (first | exact s6 _ m6a | apply List.Mem.tail))) ?_
  intro D20 Z1 Z2 Z3 Z4 Z5 x1 x2 x3 x4 x5 c1 c2 c3 c4 c5 rest20 h20 tk20 F20 N20 sub20 K1 K2 K3 K4 K5
  k_steps
  rename Fr _ _ _ _ => F21
  rename News _ _ _ _ => N21
  have s15 : ∀ p ∈ rest15, p ∈ rest20 := fun p hp => sub20 p (by repeat (first | exact hp | apply List.Mem.tail))
  refine five_eq (a1 := .ref R3) (a2 := .ref R4) (a3 := .ref H1) (a4 := .ref H2) (a5 := .ref H3) (tupAt N21 (mem_skip6 (sub20 _ (.head _)))) (tupAt N21 (.head _)) (by ke_room)
    (eqAt_refs (bys_eq (lstAt N21 (mem_skip6 (s15 _ r3))) (lstAt N21 (.tail _ (.tail _ (.tail _ (.tail _ (.tail _ (.head _))))))) A3 K1 (by ke_room)))
    (eqAt_refs (refs_eq N21 (lstAt N21 (mem_skip6 (s15 _ r4))) (lstAt N21 (.tail _ (.tail _ (.tail _ (.tail _ (.head _)))))) (AA4.mono fun p h => mem_skip6 (s15 p h)) (K2.mono fun _ h => mem_skip6 h) (by ke_room)))
    (eqAt_refs (bys_eq (lstAt N21 (mem_skip6 (sub20 _ (.tail _ (.tail _ (.tail _ (.tail _ (.head _)))))))) (lstAt N21 (.tail _ (.tail _ (.tail _ (.head _))))) B4 K3 (by ke_room)))
    (eqAt_refs (bys_eq (lstAt N21 (mem_skip6 (sub20 _ (.tail _ (.tail _ (.tail _ (.head _))))))) (lstAt N21 (.tail _ (.tail _ (.head _)))) B5 K4 (by ke_room)))
    (eqAt_refs (bys_eq (lstAt N21 (mem_skip6 (sub20 _ (.tail _ (.tail _ (.head _)))))) (lstAt N21 (.tail _ (.head _))) B6 K5 (by ke_room))) ?_
  k_steps
end Mine
end
open PySem PySem.W PyProof.Rows
theorem PySem.Challenge.cw_il0160_01_holds : PySem.Challenge.rw_il0160_01.Holds := by
  exact Mine.law_holds
