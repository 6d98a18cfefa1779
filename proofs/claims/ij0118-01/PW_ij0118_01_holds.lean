import PyProof.Rows.All
import Wide.All
import OpenK.AllK
import Wide.FinOn
import PyProof.CompUse
import PyProof.EqKinds
import PyProof.NeKinds
import PyProof.StrLawsFrom
import KE.LcTurns
import KE.KLcTest
import KE.KNest
import KE.KLam
import KE.KFromBytes
import KE.KTryDeep
import PySem.Challenge.RW_ij0118_01
open PySem PySem.W PyProof.Rows PySem.Calls PySem.Spec
set_option Elab.async false
set_option maxRecDepth 100000
set_option maxHeartbeats 0
set_option linter.unusedSimpArgs false
namespace Mine
-- HD
section
open PySem PySem.W PyProof.Rows
local macro_rules | `(tactic| o_head $_) => `(tactic| exact (by assumption : False).elim)
theorem hd (h : False) : PySem.Challenge.rw_ij0118_01.row.Holds := by
  w_on; k_head

end
-- BA
section
set_option autoImplicit false
theorem t1 {D : Nat} {l : List (Addr × Obj)} {x0 : Prop} (h : x0 ∧ AllLt D l) : AllLt D l := h.2
theorem t2 {D : Nat} {l : List (Addr × Obj)} {x0 x1 : Prop} (h : x0 ∧ x1 ∧ AllLt D l) : AllLt D l := h.2.2
theorem t3 {D : Nat} {l : List (Addr × Obj)} {x0 x1 x2 : Prop} (h : x0 ∧ x1 ∧ x2 ∧ AllLt D l) : AllLt D l := h.2.2.2
theorem t4 {D : Nat} {l : List (Addr × Obj)} {x0 x1 x2 x3 : Prop} (h : x0 ∧ x1 ∧ x2 ∧ x3 ∧ AllLt D l) : AllLt D l := h.2.2.2.2
theorem t5 {D : Nat} {l : List (Addr × Obj)} {x0 x1 x2 x3 x4 : Prop} (h : x0 ∧ x1 ∧ x2 ∧ x3 ∧ x4 ∧ AllLt D l) : AllLt D l := h.2.2.2.2.2
theorem t6 {D : Nat} {l : List (Addr × Obj)} {x0 x1 x2 x3 x4 x5 : Prop} (h : x0 ∧ x1 ∧ x2 ∧ x3 ∧ x4 ∧ x5 ∧ AllLt D l) : AllLt D l := h.2.2.2.2.2.2
theorem t7 {D : Nat} {l : List (Addr × Obj)} {x0 x1 x2 x3 x4 x5 x6 : Prop} (h : x0 ∧ x1 ∧ x2 ∧ x3 ∧ x4 ∧ x5 ∧ x6 ∧ AllLt D l) : AllLt D l := h.2.2.2.2.2.2.2
theorem t8 {D : Nat} {l : List (Addr × Obj)} {x0 x1 x2 x3 x4 x5 x6 x7 : Prop} (h : x0 ∧ x1 ∧ x2 ∧ x3 ∧ x4 ∧ x5 ∧ x6 ∧ x7 ∧ AllLt D l) : AllLt D l := h.2.2.2.2.2.2.2.2
theorem t9 {D : Nat} {l : List (Addr × Obj)} {x0 x1 x2 x3 x4 x5 x6 x7 x8 : Prop} (h : x0 ∧ x1 ∧ x2 ∧ x3 ∧ x4 ∧ x5 ∧ x6 ∧ x7 ∧ x8 ∧ AllLt D l) : AllLt D l := h.2.2.2.2.2.2.2.2.2
theorem t10 {D : Nat} {l : List (Addr × Obj)} {x0 x1 x2 x3 x4 x5 x6 x7 x8 x9 : Prop} (h : x0 ∧ x1 ∧ x2 ∧ x3 ∧ x4 ∧ x5 ∧ x6 ∧ x7 ∧ x8 ∧ x9 ∧ AllLt D l) : AllLt D l := h.2.2.2.2.2.2.2.2.2.2
theorem t11 {D : Nat} {l : List (Addr × Obj)} {x0 x1 x2 x3 x4 x5 x6 x7 x8 x9 x10 : Prop} (h : x0 ∧ x1 ∧ x2 ∧ x3 ∧ x4 ∧ x5 ∧ x6 ∧ x7 ∧ x8 ∧ x9 ∧ x10 ∧ AllLt D l) : AllLt D l := h.2.2.2.2.2.2.2.2.2.2.2
theorem t12 {D : Nat} {l : List (Addr × Obj)} {x0 x1 x2 x3 x4 x5 x6 x7 x8 x9 x10 x11 : Prop} (h : x0 ∧ x1 ∧ x2 ∧ x3 ∧ x4 ∧ x5 ∧ x6 ∧ x7 ∧ x8 ∧ x9 ∧ x10 ∧ x11 ∧ AllLt D l) : AllLt D l := h.2.2.2.2.2.2.2.2.2.2.2.2
theorem allLt_all' {d : Addr} {l : List (Addr × Obj)} (h : AllLt d l) : ∀ p ∈ l, @LT.lt Nat _ p.1 d := fun p hp => ktn_ltOf h p hp
theorem ne_rest {d : Addr} {l : List (Addr × Obj)} (h : AllLt d l) : ∀ p ∈ l, p.1 ≠ d := fun p hp => Nat.ne_of_lt (allLt_all' h p hp)
theorem lt_more {a b : Nat} (h : a < b) : a < b + 1 := Nat.lt_succ_of_lt h
theorem iteA {c : Prop} [Decidable c] {a b : Prop} (h : c) (x : a) : if c then a else b := by rw [if_pos h]; exact x
theorem iteB {v : Bool} {a b : Prop} (h : v = false) (x : b) : if v = true then a else b := by rw [h]; exact x
theorem mem_h {a : Addr × Obj} {l : List (Addr × Obj)} : a ∈ a :: l := .head _
theorem mem_t {a x : Addr × Obj} {l : List (Addr × Obj)} (h : x ∈ l) : x ∈ a :: l := .tail _ h
theorem mem_r {x : Addr × Obj} {l l' : List (Addr × Obj)} (h : x ∈ l') : x ∈ l ++ l' := List.mem_append_right _ h
theorem mem_l {x : Addr × Obj} {l l' : List (Addr × Obj)} (h : x ∈ l) : x ∈ l ++ l' := List.mem_append_left _ h
theorem sub_here {l : List (Addr × Obj)} : ∀ p ∈ l, p ∈ l := fun _ h => h
theorem sub_tail {l l' : List (Addr × Obj)} {a : Addr × Obj} (h : ∀ p ∈ l, p ∈ l') : ∀ p ∈ l, p ∈ a :: l' := fun p hp => .tail _ (h p hp)
theorem sub_right {l l' l'' : List (Addr × Obj)} (h : ∀ p ∈ l, p ∈ l') : ∀ p ∈ l, p ∈ l'' ++ l' := fun p hp => List.mem_append_right _ (h p hp)
theorem sub_left {l l' l'' : List (Addr × Obj)} (h : ∀ p ∈ l, p ∈ l') : ∀ p ∈ l, p ∈ l' ++ l'' := fun p hp => List.mem_append_left _ (h p hp)
theorem sub_cons {l l' : List (Addr × Obj)} {a : Addr × Obj} (h1 : a ∈ l') (h : ∀ p ∈ l, p ∈ l') : ∀ p ∈ a :: l, p ∈ l' := List.forall_mem_cons.mpr ⟨h1, h⟩
theorem sub_app {l l' l'' : List (Addr × Obj)} (h1 : ∀ p ∈ l, p ∈ l'') (h : ∀ p ∈ l', p ∈ l'') : ∀ p ∈ l ++ l', p ∈ l'' := List.forall_mem_append.mpr ⟨h1, h⟩
theorem sub_nil {l' : List (Addr × Obj)} : ∀ p ∈ ([] : List (Addr × Obj)), p ∈ l' := List.forall_mem_nil _
theorem ne2 {a : Nat} (h : 54 < a) : a ≠ 54 ∧ a ≠ 47 := ⟨Nat.ne_of_gt h, Nat.ne_of_gt (Nat.lt_trans (by decide) h)⟩
theorem le_room {a b : Nat} (h : a ≤ b) (hb : b ≤ 16777216 := by decide) : a ≤ sizeLine := by rw [sizeLine_eq]; exact Nat.le_trans h hb
theorem dec_lt {n i : Nat} (h : i < n) : n + 1 - (i + 1) < n + 1 - i := Nat.sub_lt_sub_left (Nat.lt_succ_of_lt h) (Nat.lt_succ_self i)
theorem four_b {b : Int} (h : 0 < b) (h2 : b < 5) : b = 1 ∨ b = 2 ∨ b = 3 ∨ b = 4 := by
  obtain ⟨n, rfl⟩ := Int.eq_ofNat_of_zero_le (Int.le_of_lt h)
  exact (by decide : ∀ n : Nat, n < 5 → 0 < n → ((n : Int) = 1 ∨ (n : Int) = 2 ∨ (n : Int) = 3 ∨ (n : Int) = 4)) n (Int.ofNat_lt.mp h2) (Int.ofNat_lt.mp h)
theorem in4 {o j : Int} (h1 : o + 1 ≤ j) (h2 : j < o + 5) : j = o + 1 ∨ j = o + 2 ∨ j = o + 3 ∨ j = o + 4 :=
  have k : ∀ c : Int, j - o = c → j = o + c := fun _ h => h ▸ (Int.add_comm _ _ ▸ (Int.sub_add_cancel j o).symm)
  (four_b (Int.sub_pos_of_lt h1) (Int.sub_left_lt_of_lt_add h2)).imp (k _) (Or.imp (k _) (Or.imp (k _) (k _)))
theorem in3 {o j : Int} (h1 : o + 1 ≤ j) (h2 : j < o + 4) : j = o + 1 ∨ j = o + 2 ∨ j = o + 3 :=
  (in4 h1 (Int.lt_trans h2 (Int.add_lt_add_left (by decide) o))).imp id (Or.imp id (Or.elim · id fun h => absurd h (Int.ne_of_lt h2)))
theorem in2 {o j : Int} (h1 : o + 1 ≤ j) (h2 : j < o + 3) : j = o + 1 ∨ j = o + 2 :=
  (in3 h1 (Int.lt_trans h2 (Int.add_lt_add_left (by decide) o))).imp id (Or.elim · id fun h => absurd h (Int.ne_of_lt h2))
theorem rg9 {o a b t : Int} {L : Nat} (h0 : 0 ≤ o) (h1 : o + t ≤ L) (h2 : L < 900) (ha : 0 ≤ a) (hab : a < b) (hb : b ≤ t) : 0 ≤ o + a ∧ o + a < o + b ∧ o + b < 900 :=
  ⟨Int.add_nonneg h0 ha, Int.add_lt_add_left hab o, Int.lt_of_le_of_lt (Int.le_trans (Int.add_le_add_left hb o) h1) (Int.ofNat_lt.mpr h2)⟩
theorem rg {o a b t : Int} {L : Nat} (h0 : 0 ≤ o) (h1 : o + t ≤ L) (h2 : L < 900) (ha : 0 ≤ a) (hab : a < b) (hb : b ≤ t) : 0 ≤ o + a ∧ o + a < o + b ∧ o + b < 1000 :=
  have h := rg9 h0 h1 h2 ha hab hb; ⟨h.1, h.2.1, Int.lt_trans h.2.2 (by decide)⟩
theorem lt_in {o b t : Int} {L : Nat} (h1 : o + t ≤ L) (hb : b < t) : o + b < L := Int.lt_of_lt_of_le (Int.add_lt_add_left hb o) h1
theorem ix_in {n j : Nat} (h : j < n) : ((0 ≤ (if (j : Int) < 0 then (j : Int) + n else j)) ∧ (if (j : Int) < 0 then (j : Int) + n else j) < n) ∧ (if (j : Int) < 0 then (j : Int) + n else j).toNat = j := by
  rw [if_neg (Int.not_lt.mpr (Int.natCast_nonneg j))]
  exact ⟨⟨Int.natCast_nonneg j, Int.ofNat_lt.mpr h⟩, Int.toNat_natCast j⟩
theorem add_sub_l (o i j : Nat) : o + j - (o + i) = j - i := Nat.add_sub_add_left o j i
theorem max0 (c : Nat) : (max (0 : Int) c).toNat = c := by rw [Int.max_eq_right (Int.natCast_nonneg c)]; exact Int.toNat_natCast c
theorem sub_mid {lo M hi : Nat} (h1 : lo ≤ M) (h2 : M ≤ hi) : hi - lo = (M - lo) + (hi - M) := (Nat.sub_add_sub_cancel h2 h1).symm.trans (Nat.add_comm _ _)
theorem ints_half (a k : Nat) : ((a : Int) + ((a + k : Nat) : Int)) / 2 = ((a + k / 2 : Nat) : Int) :=
  congrArg Int.ofNat (by rw [← Nat.add_assoc, ← Nat.two_mul]; exact Nat.mul_add_div (by decide) a k : (a + (a + k)) / 2 = a + k / 2)
theorem clip {c n : Nat} (h : c ≤ n) : max (0 : Int) (min (c : Int) (n : Int)) = c := by
  rw [Int.min_eq_left (Int.ofNat_le.mpr h), Int.max_eq_right (Int.natCast_nonneg c)]
theorem cat_le {a b c : Nat} {x y : Str} (h1 : x.length ≤ a) (h2 : y.length ≤ b) (h : a + b ≤ c) : (x ++ y).length ≤ c := by
  rw [Str.length_append]; exact Nat.le_trans (Nat.add_le_add h1 h2) h
theorem toNat_sub' (a b : Nat) : ((a : Int) - (b : Int)).toNat = a - b := Int.toNat_sub a b
theorem wp_execs_app {M : Model} {A : Around} {Γ : PySem.Ctx} {env : Env} {Q : Flow → Shared → Prop} {E : Value → Shared → Prop} (hΓ : Γ.In A) {b : List Stmt} : ∀ (a : List Stmt) (p : Pos) (s : Shared),
    Sem.wp M Γ (execs a env) (fun f _ s' => f = .next ∧ wpAny M A (execs b env) Q E s') (fun e _ s' => E e s') p s → Sem.wp M Γ (execs (a ++ b) env) (fun f _ s' => Q f s') (fun e _ s' => E e s') p s
  | [], p, s, h => h.2 Γ p hΓ
  | st :: rest, p, s, h => by
    rw [execs_cons, Sem.wp_bind'] at h
    rw [List.cons_append, execs_cons, Sem.wp_bind']
    refine Sem.wp_mono M Γ _ (fun f p' s' h' => ?_) (fun _ _ _ h' => h') _ _ h
    cases f <;> first | exact wp_execs_app hΓ rest p' s' h' | exact absurd h'.1 (by simp)
theorem execs_app {M : Model} {A : Around} {env : Env} {Q : Flow → Shared → Prop} {E : Value → Shared → Prop} {s : Shared} (k : Nat) {l : List Stmt} (h : wpAny M A (execs (l.take k) env) (fun f s' => f = .next ∧ wpAny M A (execs (l.drop k) env) Q E s') E s) :
    wpAny M A (execs l env) Q E s := fun Γ p hΓ => by
  have := wp_execs_app hΓ (b := l.drop k) (l.take k) p s (h Γ p hΓ)
  rwa [List.take_append_drop] at this

end
-- B0
section
theorem fill : PySem.Challenge.rw_ij0118_01 = PySem.Challenge.rw_ij0118_01 ∧ hd.heap_1 = hd.heap_1 := by
  w_top off
  k_fill
  exact ⟨rfl, rfl⟩

/-- a call with the caller's ground: what it hands back and what it adds to the ledger -/
noncomputable def Spec (w : World) (loose : List Str) (mean : ExcName → Option Value) (mg mb : Str → Option Value) (dp un : Nat) (f : Addr)
    (pre : List (Addr × Obj) → Prop) (vs : List Value) (Res : List (Addr × Obj) → Value → Prop) : Prop :=
  ∀ (dp' un' : Nat) (gd : Option (List Code)) (cn : Str) (cs : Scope) (a : Addr) (ccd : Value) (cl : List (Str × Addr)) (outer : List Env) (A₀ : Around) (base h₀ : Heap) (L : Addr)
    (m : Str → Option Value) (news : List (Addr × Obj)) (s : Shared) (Q E : Value → Shared → Prop), dp' ≤ dp → un' ≤ un →
    Below A₀ base outer h₀ → Fr h₀ L s.heap m → (hd.heap_1 w.params).In h₀ → News h₀ L s.heap news → Top topProg loose mean mg mb h₀ → cs.kind = .function → pre news →
    (∀ r add h' tk', Fr h₀ L h' m → News h₀ L h' (add ++ news) → (∀ p ∈ add, ∀ q ∈ news, q.1 < p.1) → Res add r → Q r { s with heap := h', toks := tk' }) →
    wpAny (model PySem.Challenge.rw_ij0118_01.row.prog w) (ktrTop dp' un' gd cn cs L a ccd cl outer) (call (.ref f) vs) Q E s

theorem around_le {α : Type} {M : Model} {A A' : Around} {t : Sem α} {Q : α → Shared → Prop} {E : Value → Shared → Prop} {s : Shared} (h1 : A.handled = A'.handled) (h2 : A.depth ≤ A'.depth) (h3 : A.frames = A'.frames) (h4 : A.guards = A'.guards) (h5 : A.units ≤ A'.units)
    (h : wpAny M A' t Q E s) : wpAny M A t Q E s := fun Γ p hΓ => h Γ p ⟨h1 ▸ hΓ.1, Nat.le_trans hΓ.2.1 h2, h3 ▸ hΓ.2.2.1, h4 ▸ hΓ.2.2.2.1, Nat.le_trans hΓ.2.2.2.2 h5⟩
noncomputable abbrev tupO (vs : List Value) : Obj := { cls := .type "tuple", data := .seq vs.toArray }
noncomputable abbrev lstO (vs : List Value) : Obj := { cls := .type "list", data := .seq vs.toArray }
theorem lt_one {h₀ h : Heap} {L : Addr} {news : List (Addr × Obj)} {o : Obj} (N : News h₀ L h news) : ∀ p ∈ [(h.objs.size, o)], ∀ q ∈ news, q.1 < p.1 := fun p hp q hq => by
  rw [List.mem_singleton.mp hp]; exact Heap.lt_size (N q hq).1
theorem allLt_all {d : Addr} {l : List (Addr × Obj)} (h : AllLt d l) (p : Addr × Obj) (hp : p ∈ l) : @LT.lt Nat _ p.1 d := ktn_ltOf h p hp

end
-- B1
section
/-- a code table's place: empty, or it holds the one code object of the nested def -/
noncomputable def TOk (line col : Nat) (qual : Str) (t : Obj) (news : List (Addr × Obj)) : Prop :=
  t = tabObj #[] ∨ ∃ c' oc vs tq, t = tabObj #[rawInt line, rawInt col, .ref c'] ∧ (c', oc) ∈ news ∧ oc.data = .fields vs ∧ vs[1]? = some (.str qual tq)

theorem TOk.mono {line col : Nat} {qual : Str} {t : Obj} {news news' : List (Addr × Obj)} (h : TOk line col qual t news) (hs : ∀ p ∈ news, p ∈ news') : TOk line col qual t news' := by
  rcases h with h | ⟨c', oc, vs, tq, a, b, c, d⟩
  · exact .inl h
  · exact .inr ⟨c', oc, vs, tq, a, hs _ b, c, d⟩

theorem news_ne {h₀ h : Heap} {L a b : Addr} {o o' : Obj} {news : List (Addr × Obj)} (N : News h₀ L h news) (h1 : (a, o) ∈ news) (h2 : (b, o') ∈ news) (hd : o.data = o'.data → False) : a ≠ b := by
  intro e; subst e
  have e1 := (N _ h1).1
  have e2 := (N _ h2).1
  rw [e1] at e2
  cases e2
  exact hd rfl

section
variable {M : Model} {A : Around} {E : Value → Shared → Prop} {s : Shared} {h₀ : Heap} {L a c P : Addr} {m mg mb : Str → Option Value} {cn : Str} {cs : Scope} {ccd : Value} {cl : List (Str × Addr)} {news : List (Addr × Obj)} {g : Obj → List (Addr × Obj)}
  {p : Program} {loose : List Str} {mean : ExcName → Option Value} {name qual : Str} {params : Arguments} {body : List Stmt} {scope : Scope} {t : Obj} {pos : Pos} {firstLine : Nat} {clos : List (Str × Addr)}

theorem nest_any {Q : Value → Shared → Prop} {rs : List (Addr × Obj)} (hs : ∀ p ∈ rs, p ∈ news) (F : Fr h₀ L s.heap m) (N : News h₀ L s.heap news) (T : Top p loose mean mg mb h₀) (C : CodeHd h₀ c P) (hcd : ccd = .ref c) (U : UpdF P t news g) (ok : TOk pos.line pos.col qual t rs)
    (hcl : closureFor scope (envX cn cs L a ccd cl) = pure clos)
    (h : ∀ f c' oc vs tq ctv doc h' tk, Fr h₀ L h' m →
      News h₀ L h' ((f, fnMade name qual params body scope clos doc ((mg "__name__").getD .none) c' ctv) :: (c', oc) :: g (tabObj #[rawInt pos.line, rawInt pos.col, .ref c'])) →
      oc.data = .fields vs → vs[1]? = some (.str qual tq) → ((c', oc) ∈ rs ∨ ∀ q ∈ news, q.1 < c') → (∀ q ∈ news, q.1 < f) → c' < f → Q (.ref f) { s with heap := h', toks := tk }) :
    wpAny M A (makeFunction name qual params (.stmts body) scope (envX cn cs L a ccd cl) [] [] [] pos firstLine) Q E s := by
  rcases ok with rfl | ⟨c', oc, vs, tq, rfl, hm, hd, hv⟩
  · refine nest_K F N T C hcd U True.intro rfl hcl fun f c' oc vs t ctv doc h' tk F' N' hd hv hlt hlt2 => ?_
    exact h f c' oc vs t ctv doc h' tk F' N' hd hv (.inr hlt) (fun q hq => Nat.lt_trans (hlt q hq) hlt2) hlt2
  · obtain ⟨pre, post, rfl, hg, h1, h2⟩ := U.split
    refine nestHit_K (c' := c') F N T C hcd (List.mem_append_right _ (.head _)) (by simp [TriplesOk, rawInt]) (by simp [codeAmong, rawInt]) hcl fun f ctv doc h' tk F' N' hlt => ?_
    refine h f c' oc vs tq ctv doc h' tk F' (fun q hq => ?_) hd hv (.inl hm) hlt (hlt _ (hs _ hm))
    rcases List.mem_cons.mp hq with rfl | hq
    · exact N' _ (.head _)
    · rcases List.mem_cons.mp hq with rfl | hq
      · exact N' _ (.tail _ (hs _ hm))
      · rw [hg] at hq; exact N' _ (.tail _ hq)
end

theorem news_perm {h₀ h : Heap} {L : Addr} {news news' : List (Addr × Obj)} (N : News h₀ L h news) (hs : ∀ p ∈ news', p ∈ news) : News h₀ L h news' := fun p hp => N p (hs p hp)
theorem mem_bring {α : Type} : ∀ (l : List α) (i : Nat) {a : α}, l[i]? = some a → ∀ p ∈ a :: l.eraseIdx i, p ∈ l
  | [], i, a, h, p, hp => by simp at h
  | x :: l, 0, a, h, p, hp => by simp at h; subst h; simpa using hp
  | x :: l, i + 1, a, h, p, hp => by
    simp at h
    simp only [List.eraseIdx_cons_succ, List.mem_cons] at hp
    rcases hp with rfl | rfl | hp
    · exact .tail _ (mem_bring l i h _ (.head _))
    · exact .head _
    · exact .tail _ (mem_bring l i h _ (.tail _ hp))
theorem news_bring {h₀ h : Heap} {L : Addr} {news : List (Addr × Obj)} {a : Addr × Obj} (N : News h₀ L h news) (i : Nat) (hi : news[i]? = some a) : News h₀ L h (a :: news.eraseIdx i) := news_perm N (mem_bring news i hi)
/-- contract of a call that may fill the two code tables 54 (_digits2int) and 47 (_int2digits) -/
noncomputable abbrev Ok54 (t : Obj) (news : List (Addr × Obj)) : Prop := TOk 48 4 (Str.ofString "_digits2int.<locals>.inner") t news
noncomputable abbrev Ok47 (t : Obj) (news : List (Addr × Obj)) : Prop := TOk 33 4 (Str.ofString "_int2digits.<locals>.inner") t news
noncomputable def TS2 (w : World) (loose : List Str) (mean : ExcName → Option Value) (mg mb : Str → Option Value) (dp un : Nat) (f : Addr)
    (pre : List (Addr × Obj) → Prop) (vs : List Value) (Res : List (Addr × Obj) → Value → Prop) : Prop :=
  ∀ (dp' un' : Nat) (gd : Option (List Code)) (cn : Str) (cs : Scope) (a : Addr) (ccd : Value) (cl : List (Str × Addr)) (outer : List Env) (A₀ : Around) (base h₀ : Heap) (L : Addr)
    (m : Str → Option Value) (t1 t2 : Obj) (rest K : List (Addr × Obj)) (s : Shared) (Q E : Value → Shared → Prop), dp' ≤ dp → un' ≤ un →
    Below A₀ base outer h₀ → Fr h₀ L s.heap m → (hd.heap_1 w.params).In h₀ → News h₀ L s.heap ((54, t1) :: (47, t2) :: rest) → Top topProg loose mean mg mb h₀ → cs.kind = .function →
    CodeHd base 58 54 → CodeHd base 51 47 → (∀ p ∈ rest, p.1 ≠ 54 ∧ p.1 ≠ 47) → 99 < L → Ok54 t1 K → Ok47 t2 K → (∀ p ∈ K, p ∈ rest) → pre rest →
    (∀ r add t1' t2' h' tk', Fr h₀ L h' m → News h₀ L h' ((54, t1') :: (47, t2') :: (add ++ rest)) → (∀ p ∈ add, ∀ q ∈ rest, q.1 < p.1) → (∀ p ∈ add, L < p.1) →
      Ok54 t1' (add ++ K) → Ok47 t2' (add ++ K) → Res add r → Q r { s with heap := h', toks := tk' }) →
    wpAny (model PySem.Challenge.rw_ij0118_01.row.prog w) (ktrTop dp' un' gd cn cs L a ccd cl outer) (call (.ref f) vs) Q E s
section
variable {h₀ h : Heap} {L a b : Addr} {o o' : Obj} {news : List (Addr × Obj)} {vs its : Array Value} {k : Nat} {v : Option Value}
theorem ne_fc (N : News h₀ L h news) (h1 : (a, o) ∈ news) (h2 : (b, o') ∈ news) (e1 : o.data = .fields vs) (e2 : o'.data = .cell v) : a ≠ b := news_ne N h1 h2 fun e => by rw [e1, e2] at e; cases e
theorem ne_fl (N : News h₀ L h news) (h1 : (a, o) ∈ news) (h2 : (b, o') ∈ news) (e1 : o.data = .fields vs) (e2 : o'.data = .seq its k) : a ≠ b := news_ne N h1 h2 fun e => by rw [e1, e2] at e; cases e
end

theorem frame_lt {h₀ g h : Heap} {L L' : Addr} {m m' : Str → Option Value} (FG : Fr h₀ L g m) (F' : Fr g L' h m') : @LT.lt Nat _ L L' := Nat.lt_of_lt_of_le FG.ns.lt F'.above
open PyProof.V
section
variable {prog : Program} {w : World} {A : Around} {E : Value → Shared → Prop} {s : Shared} {h₀ : Heap} {env : Env} {x : Str} {body : List Stmt} {Q : Flow → Shared → Prop} {I : Addr} {lp : Addr × Obj}
theorem unrPost_mono {L : Addr} {s₁ : Shared} {it : Obj} {r1 r2 : (Str → Option Value) → List (Addr × Obj) → Prop} (h : ∀ m n, r1 m n → r2 m n) (f : Flow) (s₂ : Shared) (p : UnrPost h₀ L s₁ I it r1 Q f s₂) : UnrPost h₀ L s₁ I it r2 Q f s₂ := by
  cases f with
  | ret v => exact p
  | brk => exact p
  | next => obtain ⟨h', tk, m', n', a, b, c, d, e⟩ := p; exact ⟨h', tk, m', n', a, b, c, d, h _ _ e⟩
  | cont => obtain ⟨h', tk, m', n', a, b, c, d, e⟩ := p; exact ⟨h', tk, m', n', a, b, c, d, h _ _ e⟩
theorem rev_induct (Inv : List Value → (Str → Option Value) → List (Addr × Obj) → Prop)
    (zero : ∀ m news, Inv [] m news → ∀ h tk, Fr h₀ env.locals h m → News h₀ env.locals h news → Q .next { s with heap := h, toks := tk })
    (succ : ∀ v r m news, Inv (v :: r) m news → ∀ (it : Obj) h tk, it.cls = .type "list_reverseiterator" → Fr h₀ env.locals h (fun y => if y = x then some v else m y) → News h₀ env.locals h ((I, it) :: news) →
      wpAny (model prog w) A (execs body env) (UnrPost h₀ env.locals { s with heap := h, toks := tk } I it (fun m' n' => lp ∈ n' ∧ Inv r m' n') Q) E { s with heap := h, toks := tk }) :
    ∀ (r : List Value) (m : Str → Option Value) (news : List (Addr × Obj)), Inv r m news → RevRest prog w A E h₀ env x body Q s I lp r m news
  | [], m, news, hi => fun h tk F N => zero m news hi h tk F N
  | v :: r, m, news, hi => fun it h tk hc F N => wpAny_mono (succ v r m news hi it h tk hc F N) (unrPost_mono fun m' n' hh => ⟨hh.1, rev_induct Inv zero succ r m' n' hh.2⟩) fun _ _ e => e
end
theorem offI_of {I : Addr} {it : Obj} : ∀ {l : List (Addr × Obj)}, (∀ p ∈ l, p.1 ≠ I) → OffI I it l
  | [], _ => True.intro
  | p :: r, h => ⟨.inl (h p (.head _)), offI_of fun q hq => h q (.tail _ hq)⟩
section
variable {prog : Program} {w : World} {A : Around} {E : Value → Shared → Prop} {s : Shared} {h₀ : Heap} {L D : Addr} {m : Str → Option Value} {news news' : List (Addr × Obj)} {vs : List Value} {n : Nat}
theorem rev_K {Q : Value → Shared → Prop} (F : Fr h₀ L s.heap m) (N : News h₀ L s.heap news) (U : Upd D (listOf vs.toArray n) (listOf vs.reverse.toArray n) news news') (hz : vs.length ≤ 64)
    (h : ∀ h', Fr h₀ L h' m → News h₀ L h' news' → Q .none { s with heap := h' }) : wpAny (model prog w) A (call (.builtin "list.reverse") [.ref D]) Q E s :=
  kl_reverse F N (l := vs.reverse) (by simp) U (by rw [sizeLine_eq]; simp; omega) h
end
section
variable {prog : Program} {w : World} {A : Around} {E : Value → Shared → Prop} {s : Shared} {h₀ : Heap} {L D : Addr} {m : Str → Option Value} {news news' : List (Addr × Obj)} {vs : List Value} {n : Nat} {x : Value}
theorem app_K {Q : Value → Shared → Prop} (F : Fr h₀ L s.heap m) (N : News h₀ L s.heap news) (U : Upd D (listOf vs.toArray n) (listOf (vs ++ [x]).toArray (n + 1)) news news') (hz : vs.length ≤ 1000)
    (h : ∀ h', Fr h₀ L h' m → News h₀ L h' news' → Q .none { s with heap := h' }) : wpAny (model prog w) A (call (.builtin "list.append") [.ref D, x]) Q E s := by
  refine append_K F N (its := vs.toArray) (n := n) (news' := news') ?_ h (by rw [sizeLine_eq]; simp; omega)
  simpa using U
end

end
-- B2
section
section
variable {prog : Program} {w : World} {A : Around} {E : Value → Shared → Prop} {s : Shared} {env : Env}
theorem raiseZ {x : Str} {np pos : Pos} {Q : Flow → Shared → Prop} (hh : A.handled = none)
    (hx : wpAny (model prog w) A (eval (.Name x np) env) (fun v s₁ => v = .type "ZeroDivisionError" ∧ s₁ = s) E s)
    (h : ∀ h' e, Heap.MadeExc s.heap h' e "ZeroDivisionError" [] → E (.ref e) { s with heap := h' }) :
    wpAny (model prog w) A (exec (.Raise (some (.Name x np)) none pos) env) Q E s := by
  show wpAny (model prog w) A (do standAt pos; raiseStmt env (some (do let v ← eval (.Name x np) env; standAt pos; pure v)) none) Q E s
  refine wpAny_bind (wpAny_standAt ?_)
  unfold raiseStmt
  dsimp only
  refine wpAny_bind (wpAny_bind (wpAny_mono hx (fun v s₁ h₁ => wpAny_bind (wpAny_standAt (wpAny_pure ?_))) fun _ _ e => e))
  obtain ⟨rfl, hs₁⟩ := h₁
  subst s₁
  refine wpAny_bind (wpAny_pure ?_)
  dsimp only
  refine wpAny_bind (wpAny_holding ?_)
  unfold excFromValue isExcClass
  refine wpAny_bind (wpAny_bind (wpAny_pure ?_))
  simp only [if_true]
  rw [excClass_ZeroDivisionError.base]
  refine wpAny_pure ?_
  simp only [if_true]
  obtain ⟨hp, g, d, tk, os⟩ := s
  refine wpAny_bind (wpAny_call_exc PySem.F.excBase_ZeroDivisionError.toExcCallFacts (fun h' e hm => ?_))
  have hn := hm.newExc
  obtain ⟨ob, t, he, hcls, hd⟩ := hn.there
  have hT : ({ heap := h', gens := g, drawn := d, toks := tk, os := os } : Shared).TypeIs (.ref e) "ZeroDivisionError" := ⟨ob, he, hcls⟩
  refine wpAny_bind (wpAny_isInstance hT excClass_ZeroDivisionError.base ?_)
  simp only [Bool.not_true, Bool.false_eq_true, if_false]
  refine wpAny_pure ?_
  first | (refine wpAny_bind (m := isType (.type "ZeroDivisionError")) (wpAny_pure ?_)) | (refine wpAny_bind (wpAny_pure ?_))
  first | (rw [if_pos rfl]) | (simp only [if_true]) | dsimp only
  refine wpAny_bind (wpAny_holding ?_)
  unfold raisedFor
  first | (simp only [Bool.false_eq_true, if_false]) | (rw [if_neg (by decide)]) | skip
  first | (refine wpAny_bind (wpAny_typeOf hT ?_)) | (refine wpAny_bind ?_; refine wpAny_bind (wpAny_typeOf hT ?_))
  refine wpAny_bind (call_issubclass (issubclass_self excClass_ZeroDivisionError (by rw [isSubtype_type]; kernel_rfl)) ?_)
  first | (refine wpAny_bind (wpAny_truthy_bool ?_)) | (refine wpAny_truthy_bool ?_) | (dsimp only [wants]; first | (refine wpAny_bind (wpAny_truthy_bool ?_)) | (refine wpAny_truthy_bool ?_))
  first | (rw [if_pos rfl]) | (simp only [if_true]) | skip
  refine wpAny_pure ?_
  unfold setFlight raiseNew
  refine wpAny_bind (wpAny_bind (wpAny_field (i := 1) (x := Value.none) he hd rfl ?_))
  rw [if_neg (by decide)]
  refine wpAny_pure (wpAny_bind (wpAny_handled ?_))
  rw [hh]
  first
    | exact wpAny_throw (h h' e hm)
    | exact wpAny_bind (wpAny_pure (wpAny_throw (h h' e hm)))
end

end
-- B3
section
section
variable {prog : Program} {w : World} {A₀ A : Around} {s : Shared} {base h₀ : Heap} {L : Addr} {m : Str → Option Value} {env : Env} {news : List (Addr × Obj)} {K : Frag} {p : Program} {loose : List Str} {mean : ExcName → Option Value} {mg mb : Str → Option Value}
    {R : Result → Shared → Prop} {name qual : Str} {params : Arguments} {body : List Stmt} {scope : Scope} {dV kV doc pm cdv ct oc : Value} {an od : Option Addr} {osl : Array (Option Value)} {f : Addr} {args : Args} {binds : List (Str × Value)}
/-- a def that holds a try, called from the law's frame, whatever cells that frame has -/
theorem code_trySX (B : Below A₀ base [] h₀) (F : Fr h₀ L s.heap m) (X₀ : K.In h₀) (N : News h₀ L s.heap news) (T : Top p loose mean mg mb h₀) (hA : A.frames = some [env]) (hf : env.frame = some L) (hke : env.scope.kind = .function)
    (ho : K.lookup f = some ⟨oc, od, .func (fnOf name qual params body scope dV kV doc pm an cdv ct), osl⟩) (hcd : codeIn K cdv qual = true) (hroom : A.depth < recursionLimit)
    (hbind : BindsTo s (fnOf name qual params body scope dV kV doc pm an cdv ct) args binds) (hloc : ∀ y ∈ binds, scope.names.lookup y.1 = some .local)
    (h : ∀ g L' h₁, Fr h₀ L g m → Fr g L' h₁ (fun y => binds.reverse.lookup y) → News g L' h₁ news → Below A base [env] g → K.In g → Top p loose mean mg mb g → KtsDicts ([env].filterMap (·.frame)) g →
      wpAny (model prog w) (A.deeper (envOf qual scope L' f cdv)) (execs body (envOf qual scope L' f cdv))
        (fun fl s' => LeaveS0 ([env].filterMap (·.frame)) h₀ L m g R (match fl with | .ret v => v | _ => .none) s')
        (fun e s' => wpAny (model prog w) (A.deeper (envOf qual scope L' f cdv)) (leaving (envOf qual scope L' f cdv) e) (fun _ s'' => R (.error e) s'') (fun e' s'' => R (.error e') s'') s')
        { s with heap := h₁, toks := s.toks + binds.length })
    (hco : scope.isCoroutine = false) (hgen : scope.isGenerator = false) (hk : scope.kind = .function)
    (hcell : ∀ x ∈ scope.names, x.2 ≠ .cell) : codeAny (model prog w) A (.call (.ref f) args) R s := by
  have X := X₀.keeps F.keep
  obtain ⟨FG, BG, st, _⟩ := groundX (R := R) B F N hA hf hke
  have hfm : ([env].filterMap (·.frame)) = [L] := by simp [hf]
  rw [hfm] at h
  refine codeAny_call_def (fd := fnOf name qual params body scope dV kV doc pm an cdv ct) (body := body) (binds := binds) hroom (X _ _ ho) rfl (T.nolimit.keeps F.keep) (codeRec_of X hcd) rfl hbind hcell hloc (fun h₁ hns hk₁ => ?_) hco hgen hk
  obtain ⟨oL, es, ep, hLg, hLd, hLk, hLf⟩ := FG.ns
  refine wpAny_mono (h _ s.heap.objs.size h₁ FG ⟨hns, fun b o e => hk₁ b o (of_hideAll _ e), Nat.le_of_eq (hideAll_size _ _)⟩
    (fun p hp => ⟨hk₁ _ _ (N p hp).1, Nat.ne_of_lt (Heap.lt_size (N p hp).1), hideAll_none _ (List.mem_map_of_mem hp)⟩) BG (X₀.keeps st) (T.keeps st) (fun b hb => by
      rw [List.mem_singleton.mp hb]
      exact ⟨oL, es, ep, hLg, hLd⟩)) (fun fl s' hl => ?_) fun _ _ y => y
  obtain ⟨g', L', m', news', T', F', N', k⟩ := hl
  have nL₀ : h₀.get? L = none := kts_self F
  obtain ⟨sl, hs⟩ := T'.up hLg
  refine k ⟨⟨_, es, ep, F'.keep _ _ hs, hLd, hLk, hLf⟩, fun b o e => F'.keep b o (T'.other b o (st b o e) (fun q => by
    rw [List.mem_singleton.mp q, nL₀] at e
    cases e)), F.above⟩ fun p hp => ⟨(N' p hp).1, fun q => ?_, ?_⟩
  · have := (N' p hp).2.2; rw [q, hs] at this; cases this
  · cases q : h₀.get? p.1 with
    | none => rfl
    | some o =>
      obtain ⟨sl', hs'⟩ := T'.up (st _ _ q)
      have := (N' p hp).2.2
      rw [hs'] at this
      cases this
end

end
-- B4
section
open PySem PySem.W PyProof.Rows PySem.Calls PySem.Spec PyProof.Rows.LCg
inductive InvFA (s : Shared) (vs : List Value) (I ax : Addr) (lo : Obj) (h₀ : Heap) (L : Addr) (Inv : Nat → (Str → Option Value) → List (Addr × Obj) → Prop) (k : Nat) (s' : Shared) : Prop
  | mk : ∀ h tk i m' news', (s' = { s with heap := h, toks := tk }) → (i ≤ vs.length) → (k = vs.length + 1 - i) → ((h.IsListIter I ax i ∧ h.IsList ax vs.toArray)) → (Fr h₀ L h m') → (News h₀ L h news') → ((∀ p ∈ news', p.1 ≠ I)) → ((ax, lo) ∈ news') → (Inv i m' news') → InvFA s vs I ax lo h₀ L Inv k s'
section
variable {prog : Program} {w : World} {A : Around} {E : Value → Shared → Prop} {s : Shared} {env : Env} {h₀ : Heap} {L : Addr} {Q : Flow → Shared → Prop}
/-- a for over a list of the ledger, whatever the target is -/
theorem iter_listA {target : Expr} {body : List Stmt} {ax : Addr} {lo : Obj} {vs : List Value} {n : Nat} {m₀ : Str → Option Value} {news : List (Addr × Obj)}
    (Inv : Nat → (Str → Option Value) → List (Addr × Obj) → Prop)
    (hh : A.handled = none) (F : Fr h₀ L s.heap m₀) (N : News h₀ L s.heap news) (hm : (ax, lo) ∈ news) (hc : lo.cls = .type "list") (hd : lo.data = .seq vs.toArray n)
    (h0 : Inv 0 m₀ news) (hg : ∀ it v, letOwnedTupleGo target it v = pure ())
    (turn : ∀ i v I it h tk m' news', vs[i]? = some v → Inv i m' news' → it.cls = .type "list_iterator" → (∀ p ∈ news', p.1 ≠ I) → (ax, lo) ∈ news' → (∀ p ∈ news, p.1 < I) → Fr h₀ L h m' → News h₀ L h ((I, it) :: news') →
      wpAny (model prog w) A (assign target env v) (fun _ s₂ => wpAny (model prog w) A (execs body env) (UnrPost h₀ L { s with heap := h, toks := tk } I it (fun m'' n'' => (ax, lo) ∈ n'' ∧ Inv (i + 1) m'' n'') Q) E s₂) E { s with heap := h, toks := tk })
    (done : ∀ h tk m' news', Inv vs.length m' news' → Fr h₀ L h m' → News h₀ L h news' → Q .next { s with heap := h, toks := tk })
    (hE : PassesOwn (model prog w) A env E) :
    wpAny (model prog w) A (pyIter (.ref ax)) (fun it s₂ => codeAny (model prog w) A (.forLoop target it body [] env) (fun r s' => match r with | .ok f => Q f s' | .error e => cameBackBy (model prog w) A env E e s') s₂) E s := by
  have hax := N _ hm
  have hl : s.heap.IsList ax vs.toArray := ⟨lo, hax.1, hc, n, hd⟩
  have hlt : ax < s.heap.objs.size := Heap.lt_size hax.1
  have hne : ax ≠ s.heap.objs.size := Nat.ne_of_lt hlt
  refine wpAny_pyIter_list hl ?_
  have W := Walks.list (prog := prog) (w := w) hh s.heap.objs.size ax hne vs.toArray
  have hnew := next_is_new F
  have hlen : vs.toArray.size = vs.length := by simp
  rw [hlen] at W
  have hIL : L ≠ s.heap.objs.size := Nat.ne_of_lt F.ns.lt
  refine codeAny_forLoop_any (InvFA s vs s.heap.objs.size ax lo h₀ L Inv) ?_ (vs.length + 1)
    ⟨_, _, 0, m₀, news, rfl, Nat.zero_le _, rfl, ⟨⟨_, Heap.get?_push_size _ rfl, rfl, rfl⟩, hl.at fun o e => Heap.get?_push_of_some _ e⟩, F.push _, (fun p hp => ⟨Heap.get?_push_of_some _ (N p hp).1, (N p hp).2⟩), (fun p hp => Nat.ne_of_lt (Heap.lt_size (N p hp).1)), hm, h0⟩
  rintro k s' ⟨h, tk, i, m', news', rfl, hi, rfl, hst, F', N', off, hm', hI⟩
  by_cases hlt' : i < vs.length
  · refine W.item i _ _ _ hlt' hst fun v h₂ tk₂ hP hst₂ hk₂ => ?_
    dsimp only
    rw [hg]
    refine wpAny_pure ?_
    have F₂ : Fr h₀ L h₂ m' := fr_but F' hk₂ hIL hnew
    have N₂ : News h₀ L h₂ news' := news_but N' hk₂ off
    obtain ⟨it, hit, hic, hid⟩ := hst₂.1
    have N₃ : News h₀ L h₂ ((s.heap.objs.size, it) :: news') := fun p hp => by
      rcases List.mem_cons.mp hp with rfl | hp
      · exact ⟨hit, Ne.symm hIL, hnew⟩
      · exact N₂ p hp
    have hv : vs[i]? = some v := by simpa using hP
    refine wpAny_mono (wpAny_passesOwn hE (turn i v s.heap.objs.size it h₂ tk₂ m' news' hv hI hic off hm' (fun p hp => Heap.lt_size (N p hp).1) F₂ N₃)) (fun _ s₂ h₂' => ?_) fun _ _ e => e
    refine wpAny_mono (wpAny_passesOwn hE h₂') (fun f s₃ p => ?_) fun _ _ e => e
    have fin : UnrEnd h₀ L { s with heap := h₂, toks := tk₂ } s.heap.objs.size it (fun m'' n'' => (ax, lo) ∈ n'' ∧ Inv (i + 1) m'' n'') s₃ → ∃ j, j < vs.length + 1 - i ∧ InvFA s vs s.heap.objs.size ax lo h₀ L Inv j s₃ := by
      rintro ⟨h', tk', m'', n'', rfl, F4, N4, off4, hm4, r4⟩
      exact ⟨vs.length + 1 - (i + 1), dec_lt (by assumption), h', tk', i + 1, m'', n'', rfl, hlt', rfl, ⟨⟨it, (N4 _ (.head _)).1, hic, hid⟩, ⟨lo, (N4 _ (.tail _ hm4)).1, hc, n, hd⟩⟩, F4, fun p hp => N4 p (.tail _ hp), off4, hm4, r4⟩
    cases f with
    | ret v => exact p
    | brk => exact p
    | next => exact fin p
    | cont => exact fin p
  · obtain rfl : i = vs.length := Nat.le_antisymm hi (Nat.not_lt.mp hlt')
    refine W.done _ _ _ hst fun h₂ tk₂ hk₂ => ?_
    exact wpAny_execs_nil (done h₂ tk₂ m' news' hI (fr_but F' hk₂ hIL hnew) (news_but N' hk₂ off))
end

end
-- B5
section
open PySem PySem.W PyProof.Rows PySem.Calls PySem.Spec PyProof.Rows.LCg
section
variable {prog : Program} {w : World} {A : Around} {s : Shared} {env : Env} {R : Result → Shared → Prop} {elt t1 i1 t2 i2 : Expr} {scope : Scope} {pos : Pos} {it acc : Value}
theorem turn2_out : compTurn (.ListComp elt [⟨t1, i1, [], 0⟩, ⟨t2, i2, [], 0⟩] scope pos) 0 it acc env = (standAt i1.pos >>= fun _ => pyNext it >>= fun r => match r with
      | none => pure (.done .next)
      | some v => letOwnedTupleGo t1 it v >>= fun _ => assign t1 env v >>= fun _ =>
        (eval i2 env >>= fun x => standAt i2.pos >>= fun _ => foldedSetIterable i2 env x >>= fun x => holding [x] (pyIter x) >>= fun it2 => runOwn (.compStart (.ListComp elt [⟨t1, i1, [], 0⟩, ⟨t2, i2, [], 0⟩] scope pos) 1 it2 acc env) env >>= fun _ =>
          again (.compLoop (.ListComp elt [⟨t1, i1, [], 0⟩, ⟨t2, i2, [], 0⟩] scope pos) 0 it acc env))) := by rfl
theorem turn2_in : compTurn (.ListComp elt [⟨t1, i1, [], 0⟩, ⟨t2, i2, [], 0⟩] scope pos) 1 it acc env = (standAt i2.pos >>= fun _ => pyNext it >>= fun r => match r with
      | none => pure (.done .next)
      | some v => letOwnedTupleGo t2 it v >>= fun _ => assign t2 env v >>= fun _ =>
        (eval elt env >>= fun x => call (.builtin "list.append") [acc, x] >>= fun _ => pure ()) >>= fun _ =>
          again (.compLoop (.ListComp elt [⟨t1, i1, [], 0⟩, ⟨t2, i2, [], 0⟩] scope pos) 1 it acc env)) := by rfl
theorem comp2_in (I : Nat → Shared → Prop)
    (turn : ∀ n s, I n s → ∀ E', wpAny (model prog w) A (pyNext it) (fun r s₁ => match r with
      | none => R (.ok .next) s₁
      | some v => wpAny (model prog w) A (assign t2 env v) (fun _ s₂ => wpAny (model prog w) A (eval elt env) (fun x s₃ =>
          wpAny (model prog w) A (call (.builtin "list.append") [acc, x]) (fun _ s₄ => ∃ m, m < n ∧ I m s₄) E' s₃) E' s₂) E' s₁) E' s)
    (hg : ∀ v, letOwnedTupleGo t2 it v = pure ()) (n : Nat) (h : I n s) :
    codeAny (model prog w) A (.compLoop (.ListComp elt [⟨t1, i1, [], 0⟩, ⟨t2, i2, [], 0⟩] scope pos) 1 it acc env) R s := by
  refine codeAny_loop rfl I (fun n s hI => ?_) n h
  show wpAny _ A ((compTurn (.ListComp elt [⟨t1, i1, [], 0⟩, ⟨t2, i2, [], 0⟩] scope pos) 1 it acc env).onRaise (fun x => do noteFrame x env; theTreesLotGoes x)) _ _ s
  refine wpAny_noted ?_
  rw [turn2_in]
  refine wpAny_bind (wpAny_standAt (wpAny_bind (wpAny_mono (turn n s hI _) (fun r s₁ h₁ => ?_) fun _ _ h' => h')))
  cases r with
  | none => exact wpAny_pure h₁
  | some v =>
    refine wpAny_bind (wpAny_of_eq (hg v) ?_)
    exact wpAny_bind (wpAny_mono h₁ (fun _ s₂ h₂ => wpAny_bind (wpAny_bind (wpAny_mono h₂ (fun x s₃ h₃ => wpAny_bind (wpAny_mono h₃ (fun _ s₄ h₄ => wpAny_pure (wpAny_pure ⟨rfl, h₄⟩)) fun _ _ h' => h')) fun _ _ h' => h'))) fun _ _ h' => h')
theorem comp2_start (h0 : codeAny (model prog w) A (.compLoop (.ListComp elt [⟨t1, i1, [], 0⟩, ⟨t2, i2, [], 0⟩] scope pos) 1 it acc env) R s)
    (h : ∀ E', wpAny (model prog w) A (pyIter it) (fun it' s' => codeAny (model prog w) A (.compLoop (.ListComp elt [⟨t1, i1, [], 0⟩, ⟨t2, i2, [], 0⟩] scope pos) 1 it' acc env) R s') E' s) :
    codeAny (model prog w) A (.compStart (.ListComp elt [⟨t1, i1, [], 0⟩, ⟨t2, i2, [], 0⟩] scope pos) 1 it acc env) R s := by
  refine codeAny_of_tree ?_
  show wpAny _ _ ((compStart (.ListComp elt [⟨t1, i1, [], 0⟩, ⟨t2, i2, [], 0⟩] scope pos) 1 it acc env).onRaise (fun x => do noteFrame x env; standAt theWindowsPlace)) _ _ s
  refine wpAny_notedAt ?_
  unfold compStart
  show wpAny _ _ (ask >>= _) _ _ s
  refine wpAny_bind (wpAny_askSetting (wpAny_ite ?_))
  split
  · first
      | exact wpAny_bind (wpAny_pure (wpAny_pure (And.intro rfl h0)))
      | exact wpAny_pure (And.intro rfl h0)
  · first
      | exact wpAny_bind (wpAny_rule (wpAny_bind (wpAny_standAt (wpAny_bind (wpAny_mono (h _) (fun it' s' h' => wpAny_pure (And.intro rfl h')) fun _ _ x => x)))))
      | (refine wpAny_bind (wpAny_rule ?_); show wpAny _ _ (standAt i2.pos >>= _) _ _ s; exact wpAny_bind (wpAny_standAt (wpAny_bind (wpAny_mono (h _) (fun it' s' h' => wpAny_pure (And.intro rfl h')) fun _ _ x => x))))
theorem comp2_out (I : Nat → Shared → Prop)
    (turn : ∀ n s, I n s → ∀ E', wpAny (model prog w) A (pyNext it) (fun r s₁ => match r with
      | none => R (.ok .next) s₁
      | some v => wpAny (model prog w) A (assign t1 env v) (fun _ s₂ => wpAny (model prog w) A (eval i2 env) (fun x s₃ =>
          wpAny (model prog w) A (pyIter x) (fun it2 s₄ => codeAny (model prog w) A (.compStart (.ListComp elt [⟨t1, i1, [], 0⟩, ⟨t2, i2, [], 0⟩] scope pos) 1 it2 acc env) (fun r s₅ => (∃ f, r = .ok f) ∧ ∃ m, m < n ∧ I m s₅) s₄) E' s₃) E' s₂) E' s₁) E' s)
    (hg : ∀ v, letOwnedTupleGo t1 it v = pure ()) (hs : ∀ x, foldedSetIterable i2 env x = pure x) (n : Nat) (h : I n s) :
    codeAny (model prog w) A (.compLoop (.ListComp elt [⟨t1, i1, [], 0⟩, ⟨t2, i2, [], 0⟩] scope pos) 0 it acc env) R s := by
  refine codeAny_loop rfl I (fun n s hI => ?_) n h
  show wpAny _ A ((compTurn (.ListComp elt [⟨t1, i1, [], 0⟩, ⟨t2, i2, [], 0⟩] scope pos) 0 it acc env).onRaise (fun x => do noteFrame x env; theTreesLotGoes x)) _ _ s
  refine wpAny_noted ?_
  rw [turn2_out]
  refine wpAny_bind (wpAny_standAt (wpAny_bind (wpAny_mono (turn n s hI _) (fun r s₁ h₁ => ?_) fun _ _ h' => h')))
  cases r with
  | none => exact wpAny_pure h₁
  | some v =>
    refine wpAny_bind (wpAny_of_eq (hg v) ?_)
    refine wpAny_bind (wpAny_mono h₁ (fun _ s₂ h₂ => wpAny_bind (wpAny_mono h₂ (fun x s₃ h₃ => ?_) fun _ _ h' => h')) fun _ _ h' => h')
    refine wpAny_bind (wpAny_standAt (wpAny_bind (wpAny_of_eq (hs x) ?_)))
    refine wpAny_bind (wpAny_holding (wpAny_mono h₃ (fun it2 s₄ h₄ => wpAny_bind (wpAny_runOwn ?_)) fun _ _ h' => h'))
    refine codeAny_mono h₄ (fun r s₅ h₅ => ?_)
    obtain ⟨⟨f, rfl⟩, h₅⟩ := h₅
    exact wpAny_pure ⟨rfl, h₅⟩
end

end
-- B6
section
open PySem PySem.W PyProof.Rows PySem.Calls PySem.Spec PyProof.Rows.LCg
inductive InvC3 (s : Shared) (kd : Str) (St : Nat → Heap → Prop) (v1 : Value) (gI : Nat → Int) (ys : List Value) (ns0 : List Int) (x1 : Str) (C D : Addr) (h₀ : Heap) (L : Addr) (m : Str → Option Value) (news : List (Addr × Obj)) (k : Nat) (s' : Shared) : Prop
  | mk : ∀ h tk j ys' m', (s' = { s with heap := h, toks := tk }) → (j ≤ kd.length) → (k = kd.length + 1 - j) → (ys'.length = ys.length + j) → (St j h) → (Fr h₀ L h m) → (h.Ns C m') → (m' x1 = some v1) → (News h₀ L h ((D, lst ys') :: news)) → (IntsAre ys' (ns0 ++ (List.range j).map gI)) → InvC3 s kd St v1 gI ys ns0 x1 C D h₀ L m news k s'
section
variable {prog : Program} {w : World} {A : Around} {s : Shared} {env : Env} {elt i1 i2 : Expr} {scope : Scope} {pos p1 p2 : Pos} {x1 x2 : Str} {cl : List (Str × Addr)} {h₀ : Heap} {L C D J : Addr} {m : Str → Option Value} {news : List (Addr × Obj)}
theorem comp2_inner {kd : Str} {St : Nat → Heap → Prop} {v1 : Value} {gI : Nat → Int} {ys : List Value} {ns0 : List Int} {m₂ : Str → Option Value}
    (hx2 : scope.names.lookup x2 = some .local) (hkind : scope.kind = .function) (hne : x1 ≠ x2)
    (W : Walks prog w A J [J] [J] kd.cps.size (SignAt kd) St) (hJ : St 0 s.heap) (hJ₀ : h₀.get? J = none) (hJL : J ≠ L) (hJn : ∀ p ∈ news, p.1 ≠ J) (hJD : J ≠ D) (hJC : J ≠ C)
    (hC₀ : h₀.get? C = none) (hCL : C ≠ L) (hCD : C ≠ D) (hCn : ∀ p ∈ news, p.1 ≠ C) (hD₀ : h₀.get? D = none) (hDL : D ≠ L) (hDn : ∀ p ∈ news, p.1 ≠ D)
    (F : Fr h₀ L s.heap m) (N : News h₀ L s.heap ((D, lst ys) :: news)) (hC : s.heap.Ns C m₂) (hm : m₂ x1 = some v1) (hy : IntsAre ys ns0) (hsz : ys.length + kd.length ≤ sizeLine)
    (helt : ∀ (m₃ : Str → Option Value) (s' : Shared) (j : Nat) (v2 : Value), SignAt kd j v2 → s'.heap.Ns C m₃ → m₃ x1 = some v1 → m₃ x2 = some v2 → Fr h₀ L s'.heap m → News h₀ L s'.heap news → ∀ E',
      wpAny (model prog w) A (eval elt (compEnvC scope cl C env)) (fun y s₁ => (∃ t, y = .int (gI j) t) ∧ ∃ tk, s₁ = { s' with toks := tk }) E' s') :
    codeAny (model prog w) A (.compStart (.ListComp elt [⟨.Name x1 p1, i1, [], 0⟩, ⟨.Name x2 p2, i2, [], 0⟩] scope pos) 1 (.ref J) (.ref D) (compEnvC scope cl C env))
      (fun r s₅ => (∃ f, r = .ok f) ∧ ∃ h tk ys' m', s₅ = { s with heap := h, toks := tk } ∧ Fr h₀ L h m ∧ h.Ns C m' ∧ News h₀ L h ((D, lst ys') :: news) ∧ IntsAre ys' (ns0 ++ (List.range kd.length).map gI)) s := by
  have loop : codeAny (model prog w) A (.compLoop (.ListComp elt [⟨.Name x1 p1, i1, [], 0⟩, ⟨.Name x2 p2, i2, [], 0⟩] scope pos) 1 (.ref J) (.ref D) (compEnvC scope cl C env))
      (fun r s₅ => (∃ f, r = .ok f) ∧ ∃ h tk ys' m', s₅ = { s with heap := h, toks := tk } ∧ Fr h₀ L h m ∧ h.Ns C m' ∧ News h₀ L h ((D, lst ys') :: news) ∧ IntsAre ys' (ns0 ++ (List.range kd.length).map gI)) s := by
    refine comp2_in (InvC3 s kd St v1 gI ys ns0 x1 C D h₀ L m news) ?_ (fun v => rfl) (kd.length + 1)
      ⟨s.heap, s.toks, 0, ys, m₂, rfl, Nat.zero_le _, rfl, rfl, hJ, F, hC, hm, N, by simpa using hy⟩
    rintro k s' ⟨h, tk, j, ys', m', rfl, hj, rfl, hyl, hst, F', hn', hm', N', hy'⟩ E'
    by_cases hlt : j < kd.length
    · refine W.item j _ _ _ hlt hst fun v h₂ tk₂ hP hst₂ hk₂ => ?_
      refine wpAny_assign_Name (wpAny_storeName_local (lookup_relabel_local hx2) (hn'.at' fun o e => hk₂ _ o (by simpa using Ne.symm hJC) e) (fun h₃ hn₃ hs₃ => ?_) (by simp [compEnvC, relabel, hkind]))
      have F₃ : Fr h₀ L h₃ m := (fr_but F' hk₂ (Ne.symm hJL) hJ₀).change hs₃ hCL hC₀
      have N₂ : News h₀ L h₂ ((D, lst ys') :: news) := news_but N' hk₂ fun p hp => by
        rcases List.mem_cons.mp hp with rfl | hp
        · exact Ne.symm hJD
        · exact hJn p hp
      have N₃ : News h₀ L h₃ ((D, lst ys') :: news) := fun p hp => by
        refine ⟨hs₃.extBut _ _ ?_ (N₂ p hp).1, (N₂ p hp).2⟩
        rcases List.mem_cons.mp hp with rfl | hp
        · exact Ne.symm hCD
        · exact hCn p hp
      have hst₃ : St (j + 1) h₃ := W.frame _ _ _ hst₂ fun b hb o e => by rw [List.mem_singleton.mp hb] at e ⊢; exact hs₃.extBut _ _ hJC e
      refine wpAny_mono (helt _ _ j v hP hn₃ (by simp [hne, hm']) (by simp) F₃ (fun p hp => N₃ p (.tail _ hp)) E') (fun y s₄ h₄ => ?_) fun _ _ e => e
      obtain ⟨⟨t, rfl⟩, tk₄, rfl⟩ := h₄
      refine append_at (hsz := by show ys'.toArray.size ≤ sizeLine; rw [List.size_toArray, hyl]; omega) (N₃ _ (.head _)).1 fun h₅ hs₅ hD₅ => ?_
      refine ⟨kd.length + 1 - (j + 1), dec_lt (by assumption), h₅, _, j + 1, ys' ++ [.int (gI j) t], _, rfl, hlt, rfl, by simp [hyl]; omega, W.frame _ _ _ hst₃ (fun b hb o e => by rw [List.mem_singleton.mp hb] at e ⊢; exact hs₅.extBut _ _ hJD e), F₃.change hs₅ hDL hD₀, hn₃.sameBut hs₅ hCD, by simp [hne, hm'], fun p hp => ?_, ?_⟩
      · rcases List.mem_cons.mp hp with rfl | hp
        · exact ⟨hD₅.trans (congrArg some (lst_snoc ys' _)), hDL, hD₀⟩
        · exact ⟨hs₅.extBut _ _ (hDn p hp) (N₃ p (.tail _ hp)).1, (N₃ p (.tail _ hp)).2⟩
      · rw [List.range_succ, List.map_append, ← List.append_assoc]
        exact IntsAre.append hy' (.cons _ _ .nil)
    · obtain rfl : j = kd.length := Nat.le_antisymm hj (Nat.not_lt.mp hlt)
      refine W.done _ _ _ hst fun h₂ tk₂ hk₂ => ?_
      refine ⟨⟨_, rfl⟩, h₂, tk₂, ys', m', rfl, fr_but F' hk₂ (Ne.symm hJL) hJ₀, hn'.at' fun o e => hk₂ _ o (by simpa using Ne.symm hJC) e, news_but N' hk₂ fun p hp => ?_, hy'⟩
      rcases List.mem_cons.mp hp with rfl | hp
      · exact Ne.symm hJD
      · exact hJn p hp
  exact comp2_start loop fun E' => W.self 0 _ _ _ hJ loop
end

end
-- B8
section
open PySem PySem.W PyProof.Rows PySem.Calls PySem.Spec PyProof.Rows.LCg
inductive InvC2 (s₁ : Shared) (vs : List Value) (ns : List Int) (kd : Str) (gI : Int → Nat → Int) (I ax : Addr) (h₀ : Heap) (L : Addr) (m : Str → Option Value) (news : List (Addr × Obj)) (k : Nat) (s' : Shared) : Prop
  | mk : ∀ h tk i ys m', (s' = { s₁ with heap := h, toks := tk }) → (i ≤ vs.length) → (k = vs.length + 1 - i) → ((h.IsListIter I ax i ∧ h.IsList ax vs.toArray)) → (Fr h₀ L h m) → (h.Ns (I + 1 + 1) m') → (News h₀ L h ((I + 1, lst ys) :: news)) → (IntsAre ys ((ns.take i).flatMap fun n => (List.range kd.length).map (gI n))) → InvC2 s₁ vs ns kd gI I ax h₀ L m news k s'
section
variable {prog : Program} {w : World} {A : Around} {E : Value → Shared → Prop} {s : Shared} {env : Env} {elt i1 i2 : Expr} {scope : Scope} {pos p1 p2 : Pos} {x1 x2 : Str} {cl : List (Str × Addr)} {h₀ : Heap} {L : Addr} {m : Str → Option Value} {news : List (Addr × Obj)} {Q : Flow → Shared → Prop} {y : Str} {py spos : Pos}
theorem comp2_A {kd : Str} {gI : Int → Nat → Int} {ax : Addr} {lo : Obj} {vs : List Value} {ns : List Int} {nn : Nat} (F : Fr h₀ L s.heap m) (N : News h₀ L s.heap news) (hm : (ax, lo) ∈ news) (hc : lo.cls = .type "list") (hd : lo.data = .seq vs.toArray nn) (hi : IntsAre vs ns)
    (hh : A.handled = none) (hclos : closureFor scope env = pure cl) (hcell : ∀ y ∈ scope.names, y.2 ≠ .cell) (hkind : scope.kind = .function) (hnames : ∀ y ∈ scope.names, y.2 = .local → scope.names.lookup y.1 = some .local)
    (hx1 : scope.names.lookup x1 = some .local) (hx2 : scope.names.lookup x2 = some .local) (hne : x1 ≠ x2) (hsz : ns.length * kd.length + kd.length ≤ sizeLine)
    (e1 : wpAny (model prog w) A (eval i1 env) (fun xv s₁ => xv = .ref ax ∧ s₁ = s) E s)
    (e2 : ∀ C m₃ s', s'.heap.Ns C m₃ → Fr h₀ L s'.heap m → News h₀ L s'.heap news → ∀ E', wpAny (model prog w) A (eval i2 (compEnvC scope cl C env)) (fun xv s₁ => (∃ t, xv = .str kd t) ∧ s₁ = s') E' s')
    (helt : ∀ C n t1 (m₃ : Str → Option Value) (s' : Shared) (j : Nat) (v2 : Value), n ∈ ns → SignAt kd j v2 → s'.heap.Ns C m₃ → m₃ x1 = some (.int n t1) → m₃ x2 = some v2 → Fr h₀ L s'.heap m → News h₀ L s'.heap news → ∀ E',
      wpAny (model prog w) A (eval elt (compEnvC scope cl C env)) (fun y s₁ => (∃ t, y = .int (gI n j) t) ∧ ∃ tk, s₁ = { s' with toks := tk }) E' s')
    (hLe : env.locals = L) (hsw : swapsWith (.ListComp elt [⟨.Name x1 p1, i1, [], 0⟩, ⟨.Name x2 p2, i2, [], 0⟩] scope pos) (some (.Name y py)) spos.line env = pure true) (hy : env.kindOf y = some .local) (hp : (env.scope.kind == .class || (env.scope.kind == .module && env.locals != env.globals)) = false)
    (hQ : ∀ D h tk ys, Fr h₀ L h (fun z => if z = y then some (.ref D) else m z) → News h₀ L h ((D, lst ys) :: news) → (∀ p ∈ news, p.1 < D) → IntsAre ys (ns.flatMap fun n => (List.range kd.length).map (gI n)) → Q .next { s with heap := h, toks := tk })
    (hs1 : ∀ x, foldedSetIterable i1 env x = pure x) (hs2 : ∀ C x, foldedSetIterable i2 (compEnvC scope cl C env) x = pure x) :
    wpAny (model prog w) A (exec (.Assign [.Name y py] (.ListComp elt [⟨.Name x1 p1, i1, [], 0⟩, ⟨.Name x2 p2, i2, [], 0⟩] scope pos) spos) env) Q E s := by
  subst hLe
  have hax := N _ hm
  have hl : s.heap.IsList ax vs.toArray := ⟨lo, hax.1, hc, nn, hd⟩
  have hlt : ax < s.heap.objs.size := Heap.lt_size hax.1
  rw [exec_Assign_Name_used _ _ _ _ hsw]
  refine wpAny_bind (wpAny_standAt (wpAny_bind ?_))
  show wpAny _ A (do let _ ← comprehension (.ListComp elt [⟨.Name x1 p1, i1, [], 0⟩, ⟨.Name x2 p2, i2, [], 0⟩] scope pos) scope env _ (newList []) false (eval i1 env) (some (assign (.Name y py) env))) _ _ s
  refine wpAny_bind (wpAny_mono (wpAny_comprehension_free (use := some (assign (.Name y py) env)) (Q := fun _ s' => Q .next s') rfl hs1 hclos hkind hnames (wpAny_mono e1 (fun xv s₁ h₁ => ?_) fun _ _ e => e)) (fun _ s' hq => wpAny_pure (wpAny_pure hq)) fun _ _ e => e)
  obtain ⟨rfl, rfl⟩ := h₁
  refine wpAny_pyIter_list hl ?_
  have hIax : ax ≠ s₁.heap.objs.size := Nat.ne_of_lt hlt
  have W := Walks.list (prog := prog) (w := w) hh s₁.heap.objs.size ax hIax vs.toArray
  have hvl := hi.length
  generalize hIe : s₁.heap.objs.size = I at *
  generalize hH1 : s₁.heap.push { cls := .type "list_iterator", data := .fields #[.ref ax, .int 0 0] } = H1
  have s1 : H1.objs.size = I + 1 := by rw [← hH1, Heap.size_push, hIe]
  have k1 : ∀ b o, s₁.heap.get? b = some o → H1.get? b = some o := fun b o e => hH1 ▸ Heap.get?_push_of_some _ e
  have gI1 : H1.get? I = some { cls := .type "list_iterator", data := .fields #[.ref ax, .int 0 0] } := by rw [← hH1, ← hIe]; exact Heap.get?_push_size _ rfl
  refine wpAny_newObj_type (wpAny_newFunctionEnv hcell (by intro y hy; simp at hy) (fun h₁ hns₁ hsb₁ => ?_) hkind)
  dsimp only at hns₁ hsb₁ ⊢
  generalize hH2 : H1.push { cls := .type "list", dict := none, data := .seq ([] : List Value).toArray } = H2 at hns₁ hsb₁ ⊢
  have s2 : H2.objs.size = I + 1 + 1 := by rw [← hH2, Heap.size_push, s1]
  have k2 : ∀ b o, H1.get? b = some o → H2.get? b = some o := fun b o e => hH2 ▸ Heap.get?_push_of_some _ e
  have gD : H2.get? (I + 1) = some (lst []) := by rw [← hH2, ← s1]; exact Heap.get?_push_size _ rfl
  rw [s2] at hns₁ hsb₁ ⊢
  rw [s1]
  have old : ∀ b o, b < I → s₁.heap.get? b = some o → h₁.get? b = some o := fun b o hb e => hsb₁.extBut b o (Nat.ne_of_lt (by omega)) (Heap.get?_push_of_some _ (k2 _ _ (k1 _ _ e)))
  have hltI : ∀ p ∈ news, p.1 < I := fun p hp => hIe ▸ Heap.lt_size (N p hp).1
  have fresh₀ : ∀ a, I ≤ a → h₀.get? a = none := fun a ha => by
    cases e : h₀.get? a with
    | none => rfl
    | some o' => exact absurd (Heap.lt_size (F.keep a o' e)) (by rw [hIe]; exact Nat.not_lt.mpr ha)
  have hLlt : env.locals < I := hIe ▸ F.ns.lt
  have F₁ : Fr h₀ env.locals h₁ m := F.keeps fun b o e => old b o (hIe ▸ Heap.lt_size e) e
  have N₁ : News h₀ env.locals h₁ ((I + 1, lst []) :: news) := fun p hp => by
    rcases List.mem_cons.mp hp with rfl | hp
    · exact ⟨hsb₁.extBut _ _ (Nat.ne_of_lt (Nat.lt_succ_self _)) (Heap.get?_push_of_some _ gD), Nat.ne_of_gt (Nat.lt_succ_of_lt hLlt), fresh₀ _ (Nat.le_succ _)⟩
    · exact ⟨old _ _ (hltI p hp) (N p hp).1, (N p hp).2⟩
  have I₁ : h₁.IsListIter I ax 0 := ⟨_, hsb₁.extBut _ _ (Nat.ne_of_lt (show I < I + 1 + 1 by omega)) (Heap.get?_push_of_some _ (k2 _ _ gI1)), rfl, rfl⟩
  have loop : ∀ s₃ : Shared, s₃ = { s₁ with heap := h₁, toks := s₁.toks + ([] : List (Str × Value)).length } →
      codeAny (model prog w) A (.compLoop (.ListComp elt [⟨.Name x1 p1, i1, [], 0⟩, ⟨.Name x2 p2, i2, [], 0⟩] scope pos) 0 (.ref I) (.ref (I + 1)) (compEnvC scope cl (I + 1 + 1) env)) (compPost (model prog w) A E (some (assign (.Name y py) env)) (fun _ s' => Q .next s') (.ref (I + 1)) (I + 1 + 1)) s₃ := by
    rintro s₃ rfl
    have hIL : env.locals ≠ I := Nat.ne_of_lt hLlt
    have hI₀ := fresh₀ I (Nat.le_refl _)
    have hD₀ := fresh₀ (I + 1) (Nat.le_succ _)
    have hC₀ := fresh₀ (I + 1 + 1) (by omega)
    have hDL : I + 1 ≠ env.locals := Nat.ne_of_gt (Nat.lt_succ_of_lt hLlt)
    have hCL : I + 1 + 1 ≠ env.locals := Nat.ne_of_gt (Nat.lt_succ_of_lt (Nat.lt_succ_of_lt hLlt))
    refine comp2_out (InvC2 s₁ vs ns kd gI I ax h₀ env.locals m news) ?_ (fun v => rfl) (hs2 _) (vs.length + 1)
      ⟨h₁, _, 0, [], _, rfl, Nat.zero_le _, rfl, ⟨I₁, ⟨lo, (N₁ _ (.tail _ hm)).1, hc, nn, hd⟩⟩, F₁, hns₁, N₁, .nil⟩
    rintro k s' ⟨h, tk, i, ys, m', rfl, hi', rfl, hst, F', hn', N', hy'⟩ E'
    by_cases hlt' : i < vs.length
    · refine W.item i _ _ _ (by simpa using hlt') hst fun v h₂ tk₂ hP hst₂ hk₂ => ?_
      refine wpAny_assign_Name (wpAny_storeName_local (lookup_relabel_local hx1) (hn'.at' fun o e => hk₂ _ o (fun hb => Nat.ne_of_gt (Nat.lt_succ_of_lt (Nat.lt_succ_self I)) (List.mem_singleton.mp hb)) e) (fun h₃ hn₃ hs₃ => ?_) (by simp [compEnvC, relabel, hkind]))
      have F₃ : Fr h₀ env.locals h₃ m := (fr_but F' hk₂ hIL hI₀).change hs₃ hCL hC₀
      have N₂ : News h₀ env.locals h₂ ((I + 1, lst ys) :: news) := news_but N' hk₂ fun p hp => by
        rcases List.mem_cons.mp hp with rfl | hp
        · exact Nat.ne_of_gt (Nat.lt_succ_self I)
        · exact Nat.ne_of_lt (hltI p hp)
      have N₃ : News h₀ env.locals h₃ ((I + 1, lst ys) :: news) := fun p hp => by
        refine ⟨hs₃.extBut _ _ ?_ (N₂ p hp).1, (N₂ p hp).2⟩
        rcases List.mem_cons.mp hp with rfl | hp
        · exact Nat.ne_of_lt (Nat.lt_succ_self _)
        · exact Nat.ne_of_lt (Nat.lt_succ_of_lt (Nat.lt_succ_of_lt (hltI p hp)))
      obtain ⟨oI, heI, hcI, hdI⟩ := hst₂.1
      have heI₃ : h₃.get? I = some oI := hs₃.extBut _ _ (Nat.ne_of_lt (Nat.lt_succ_of_lt (Nat.lt_succ_self I))) heI
      obtain ⟨n, t1, rfl, hn⟩ : ∃ n t1, v = .int n t1 ∧ ns[i]? = some n := by
        have hv : vs[i]? = some v := by simpa using hP
        exact hi.at i v hv
      refine wpAny_mono (e2 _ _ _ hn₃ F₃ (fun p hp => N₃ p (.tail _ hp)) E') (fun xv s₄ h₄ => ?_) fun _ _ e => e
      obtain ⟨⟨tkd, rfl⟩, rfl⟩ := h₄
      refine wpAny_pyIter_str fun oJ St WJ hJ => ?_
      have hsz3 : I + 1 + 1 < h₃.objs.size := by obtain ⟨o, _, _, e, _⟩ := hn₃; exact Heap.lt_size e
      generalize hJe : h₃.objs.size = J at *
      have up : ∀ b o, h₃.get? b = some o → (h₃.push oJ).get? b = some o := fun b o e => Heap.get?_push_of_some _ e
      have hin : i < ns.length := by omega
      have hyl : ys.length = i * kd.length := by
        have := hy'.length
        rw [this, List.length_flatMap]
        simp [List.map_const', Nat.min_eq_left (Nat.le_of_lt hin)]
      refine codeAny_mono (comp2_inner (m := m) (h₀ := h₀) (L := env.locals) (news := (I, oI) :: news) (gI := gI n) (v1 := .int n t1) (ns0 := (ns.take i).flatMap fun n => (List.range kd.length).map (gI n)) (hx2 := hx2) (hkind := hkind) (hne := hne) (W := WJ A hh) (hJ := hJ)
        (hJ₀ := fresh₀ J (show @LE.le Nat _ I J by omega)) (hJL := Nat.ne_of_gt (Nat.lt_trans hLlt (show @LT.lt Nat _ I J by omega))) (hJn := ?_) (hJD := Nat.ne_of_gt (show @LT.lt Nat _ (I+1) J by omega)) (hJC := Nat.ne_of_gt (show @LT.lt Nat _ (I+1+1) J by omega)) (hC₀ := hC₀) (hCL := hCL) (hCD := Nat.ne_of_gt (Nat.lt_succ_self (I+1))) (hCn := ?_) (hD₀ := hD₀) (hDL := hDL) (hDn := ?_)
        (F := F₃.keeps up) (N := ?_) (hC := hn₃.at' (up _)) (hm := by simp) (hy := hy') (hsz := ?_) (helt := ?_)) ?_
      · intro p hp
        rcases List.mem_cons.mp hp with rfl | hp
        · exact Nat.ne_of_lt (show @LT.lt Nat _ I J by omega)
        · exact Nat.ne_of_lt (Nat.lt_trans (hltI p hp) (show @LT.lt Nat _ I J by omega))
      · intro p hp
        rcases List.mem_cons.mp hp with rfl | hp
        · exact Nat.ne_of_lt (Nat.lt_succ_of_lt (Nat.lt_succ_self I))
        · exact Nat.ne_of_lt (Nat.lt_succ_of_lt (Nat.lt_succ_of_lt (hltI p hp)))
      · intro p hp
        rcases List.mem_cons.mp hp with rfl | hp
        · exact Nat.ne_of_lt (Nat.lt_succ_self I)
        · exact Nat.ne_of_lt (Nat.lt_succ_of_lt (hltI p hp))
      · intro p hp
        rcases List.mem_cons.mp hp with rfl | hp
        · exact ⟨up _ _ (N₃ _ (.head _)).1, (N₃ _ (.head _)).2⟩
        · rcases List.mem_cons.mp hp with rfl | hp
          · exact ⟨up _ _ heI₃, Ne.symm hIL, hI₀⟩
          · exact ⟨up _ _ (N₃ _ (.tail _ hp)).1, (N₃ _ (.tail _ hp)).2⟩
      · have : i * kd.length ≤ ns.length * kd.length := Nat.mul_le_mul_right _ (Nat.le_of_lt hin)
        omega
      · intro m₃ s' j v2 hs hN h1 h2 hF hNw E''
        exact helt _ n t1 m₃ s' j v2 (List.mem_of_getElem? hn) hs hN h1 h2 hF (fun p hp => hNw p (.tail _ hp)) E''
      · rintro r s₅ ⟨hr, h5, tk5, ys5, m5, rfl, F5, n5, N5, i5⟩
        refine ⟨hr, vs.length + 1 - (i + 1), dec_lt (by assumption), h5, tk5, i + 1, ys5, m5, rfl, hlt', rfl, ⟨⟨oI, (N5 _ (.tail _ (.head _))).1, hcI, hdI⟩, ⟨lo, (N5 _ (.tail _ (.tail _ hm))).1, hc, nn, hd⟩⟩, F5, n5, fun p hp => ?_, ?_⟩
        · rcases List.mem_cons.mp hp with rfl | hp
          · exact N5 _ (.head _)
          · exact N5 _ (.tail _ (.tail _ hp))
        · rw [List.take_add_one, hn]
          simpa [List.flatMap_append] using i5
    · obtain rfl : i = vs.length := Nat.le_antisymm hi' (Nat.not_lt.mp hlt')
      refine W.done _ _ _ (by simpa using hst) fun h₂ tk₂ hk₂ => ?_
      rw [hvl, List.take_length] at hy'
      have hn₂ : h₂.Ns (I + 1 + 1) m' := hn'.at' fun o e => hk₂ _ o (fun hb => Nat.ne_of_gt (Nat.lt_succ_of_lt (Nat.lt_succ_self I)) (List.mem_singleton.mp hb)) e
      have N₂ : News h₀ env.locals h₂ ((I + 1, lst ys) :: news) := news_but N' hk₂ fun p hp => by
        rcases List.mem_cons.mp hp with rfl | hp
        · exact Nat.ne_of_gt (Nat.lt_succ_self I)
        · exact Nat.ne_of_lt (hltI p hp)
      have F₂ := fr_but F' hk₂ hIL hI₀
      show wpAny _ A (assign (.Name y py) env (.ref (I + 1))) _ _ _
      refine wpAny_assign_Name (wpAny_storeName_local hy F₂.ns (fun h₃ hn₃ hs₃ => ?_) hp)
      have hL₀ : h₀.get? env.locals = none := Heap.get?_none_of_le F'.above
      have F₃ : Fr h₀ env.locals h₃ (fun z => if z = y then some (.ref (I + 1)) else m z) := ⟨hn₃, fun b o e => hs₃.extBut b o (fun q => by rw [q, hL₀] at e; cases e) (F₂.keep b o e), F₂.above⟩
      refine ⟨m', hn₂.sameBut hs₃ hCL, fun h'' hs'' => hQ (I + 1) h'' _ ys (F₃.change hs'' hCL hC₀) (fun p hp => ?_) (fun p hp => Nat.lt_succ_of_lt (hltI p hp)) hy'⟩
      have z : h₃.get? p.1 = some p.2 := hs₃.extBut _ _ (N₂ p hp).2.1 (N₂ p hp).1
      refine ⟨hs''.extBut _ _ ?_ z, (N₂ p hp).2⟩
      rcases List.mem_cons.mp hp with rfl | hp
      · exact Nat.ne_of_lt (Nat.lt_succ_self _)
      · exact Nat.ne_of_lt (Nat.lt_succ_of_lt (Nat.lt_succ_of_lt (hltI p hp)))
  exact codeAny_compStart_list (loop _ rfl) (W.self 0 _ _ _ ⟨I₁, ⟨lo, (N₁ _ (.tail _ hm)).1, hc, nn, hd⟩⟩ (loop _ rfl))
end

end
-- P1
section
open PySem PySem.W PyProof.Rows
noncomputable def dval (n : Nat) : List Int → Int
  | [] => 0
  | d :: ds => d + 2 ^ n * dval n ds
noncomputable def Good (n k : Nat) (x : Int) (ds : List Int) : Prop := ds.length = k ∧ (∀ d ∈ ds, 0 ≤ d) ∧ dval n ds = x ∧ (x < 2 ^ (n * k) → ∀ d ∈ ds, d < 2 ^ n)

theorem dval_append (n : Nat) : ∀ (a b : List Int), dval n (a ++ b) = dval n a + 2 ^ (n * a.length) * dval n b
  | [], b => by simp [dval]
  | d :: a, b => by
    have := dval_append n a b
    simp only [List.cons_append, dval, this, List.length_cons, Nat.mul_succ, Int.mul_add, Int.pow_add]
    rw [Int.add_assoc]
    congr 2
    rw [← Int.mul_assoc]
    congr 1
    rw [Int.mul_comm]
theorem dval_nonneg (n : Nat) : ∀ (a : List Int), (∀ d ∈ a, 0 ≤ d) → 0 ≤ dval n a
  | [], _ => Int.le_refl _
  | d :: a, h => by
    have h1 := h d (.head _)
    have h2 := dval_nonneg n a fun e he => h e (.tail _ he)
    have h3 : (0 : Int) ≤ 2 ^ n := Int.le_of_lt (Int.pow_pos (by decide))
    have h4 := Int.mul_nonneg h3 h2
    simp only [dval]; omega
theorem good_one {n : Nat} {x : Int} (h : 0 ≤ x) : Good n 1 x [x] := by
  refine ⟨rfl, ?_, ?_, ?_⟩
  · intro d hd; rw [List.mem_singleton.mp hd]; exact h
  · simp [dval]
  · intro hx d hd; rw [List.mem_singleton.mp hd]; simpa using hx
theorem good_append {n a b : Nat} {lo up x : Int} {d1 d2 : List Int} (h1 : Good n a lo d1) (h2 : Good n b up d2) (hlo : lo < 2 ^ (n * a)) (hx : x = lo + 2 ^ (n * a) * up) (h0 : 0 ≤ lo) : Good n (a + b) x (d1 ++ d2) := by
  obtain ⟨l1, p1, v1, s1⟩ := h1
  obtain ⟨l2, p2, v2, s2⟩ := h2
  refine ⟨by rw [List.length_append, l1, l2], ?_, ?_, ?_⟩
  · intro d hd
    rcases List.mem_append.mp hd with hd | hd
    · exact p1 d hd
    · exact p2 d hd
  · rw [dval_append, l1, v1, v2, hx]
  · intro hlt d hd
    rcases List.mem_append.mp hd with hd | hd
    · exact s1 hlo d hd
    · refine s2 ?_ d hd
      rw [hx, Nat.mul_add, Int.pow_add] at hlt
      have hp : (0 : Int) < 2 ^ (n * a) := Int.pow_pos (by decide)
      refine Int.lt_of_mul_lt_mul_left (a := 2 ^ (n * a)) ?_ (Int.le_of_lt hp)
      omega
theorem nat_and_high (x s : Nat) : x &&& (x / 2 ^ s * 2 ^ s) = x / 2 ^ s * 2 ^ s := by
  rw [← Nat.shiftRight_eq_div_pow, ← Nat.shiftLeft_eq]
  apply Nat.eq_of_testBit_eq
  intro i
  simp only [Nat.testBit_and, Nat.testBit_shiftLeft, Nat.testBit_shiftRight]
  by_cases h : s ≤ i
  · simp [h, Nat.add_sub_cancel' h]
  · simp [h]
theorem xor_low {x : Int} (h : 0 ≤ x) (s : Nat) : Builtin.bitXor x (x.fdiv (2 ^ s) * 2 ^ s) = x % 2 ^ s := by
  obtain ⟨n, rfl⟩ := Int.eq_ofNat_of_zero_le h
  rw [bitXor_and]
  have e1 : Int.fdiv (n : Int) (2 ^ s) = ((n / 2 ^ s : Nat) : Int) := by
    rw [Int.fdiv_eq_ediv_of_nonneg _ (Int.le_of_lt (Int.pow_pos (by decide)))]
    norm_cast
  have e2 : ((n / 2 ^ s : Nat) : Int) * 2 ^ s = ((n / 2 ^ s * 2 ^ s : Nat) : Int) := by norm_cast
  have e3 : Builtin.bitAnd (n : Int) ((n / 2 ^ s * 2 ^ s : Nat) : Int) = ((n / 2 ^ s * 2 ^ s : Nat) : Int) := by
    unfold Builtin.bitAnd
    rw [decide_eq_true (Int.natCast_nonneg n), decide_eq_true (Int.natCast_nonneg _)]
    simp only [Int.toNat_natCast]
    rw [nat_and_high]
  rw [e1, e2, e3]
  have e4 : ((2 : Int) ^ s) = ((2 ^ s : Nat) : Int) := by norm_cast
  rw [e4, ← Int.natCast_emod]
  have := Nat.div_add_mod n (2 ^ s)
  rw [Nat.mul_comm] at this
  omega
theorem splice2 {α : Type} {vs v1 v2 : List α} {lo M hi : Nat} (h1 : lo ≤ M) (h2 : M ≤ hi) (h3 : hi ≤ vs.length) (hv : v1.length = M - lo) :
    (vs.take lo ++ v1 ++ vs.drop M).take M ++ v2 ++ (vs.take lo ++ v1 ++ vs.drop M).drop hi = vs.take lo ++ (v1 ++ v2) ++ vs.drop hi := by
  have hl : (vs.take lo ++ v1).length = M := by rw [List.length_append, List.length_take, hv, Nat.min_eq_left (Nat.le_trans h1 (Nat.le_trans h2 h3)), Nat.add_sub_cancel' h1]
  have e1 : (vs.take lo ++ v1 ++ vs.drop M).take M = vs.take lo ++ v1 := by
    rw [List.take_append_of_le_length (Nat.le_of_eq hl.symm), List.take_of_length_le (Nat.le_of_eq hl)]
  have e2 : (vs.take lo ++ v1 ++ vs.drop M).drop hi = vs.drop hi := by
    rw [List.drop_append, hl, List.drop_of_length_le (by rw [hl]; exact h2), List.nil_append, List.drop_drop, Nat.add_sub_cancel' h2]
  rw [e1, e2, List.append_assoc (vs.take lo)]
theorem splice1 {α : Type} {vs : List α} {lo : Nat} {v : α} (h : lo < vs.length) : vs.set lo v = vs.take lo ++ [v] ++ vs.drop (lo + 1) := by
  rw [List.set_eq_take_append_cons_drop, if_pos h]; simp
theorem splice_ints {vs v1 : List Value} {ns n1 : List Int} (h : IntsAre vs ns) (h1 : IntsAre v1 n1) (lo hi : Nat) : IntsAre (vs.take lo ++ v1 ++ vs.drop hi) (ns.take lo ++ n1 ++ ns.drop hi) := by
  have ht : ∀ {vs ns}, IntsAre vs ns → ∀ k : Nat, IntsAre (vs.take k) (ns.take k) := by
    intro vs ns h
    induction h with
    | nil => intro k; simp; exact .nil
    | cons n t _ ih => intro k; cases k with
      | zero => exact .nil
      | succ k => exact .cons n t (ih k)
  have hd : ∀ {vs ns}, IntsAre vs ns → ∀ k : Nat, IntsAre (vs.drop k) (ns.drop k) := by
    intro vs ns h
    induction h with
    | nil => intro k; simp; exact .nil
    | cons n t h ih => intro k; cases k with
      | zero => exact .cons n t h
      | succ k => exact ih k
  exact IntsAre.append (IntsAre.append (ht h lo) h1) (hd h hi)
theorem half_fdiv (a : Int) : a.fdiv (2 ^ Int.toNat 1) = a / 2 := by
  rw [Int.fdiv_eq_ediv_of_nonneg _ (by decide)]; rfl
theorem fdiv_pow {x : Int} (s : Nat) : x.fdiv (2 ^ s) = x / 2 ^ s := Int.fdiv_eq_ediv_of_nonneg _ (Int.le_of_lt (Int.pow_pos (by decide)))
theorem low_range {x : Int} (h : 0 ≤ x) (s : Nat) : 0 ≤ Builtin.bitXor x (x.fdiv (2 ^ s) * 2 ^ s) ∧ Builtin.bitXor x (x.fdiv (2 ^ s) * 2 ^ s) ≤ x := by
  have hp : (0 : Int) < 2 ^ s := Int.pow_pos (by decide)
  rw [xor_low h]
  refine ⟨Int.emod_nonneg _ (Int.ne_of_gt hp), ?_⟩
  have h1 := Int.mul_ediv_add_emod x (2 ^ s)
  have h2 := Int.mul_nonneg (Int.le_of_lt hp) (Int.ediv_nonneg h (Int.le_of_lt hp))
  omega
theorem high_range {x : Int} (h : 0 ≤ x) (s : Nat) : 0 ≤ x.fdiv (2 ^ s) ∧ x.fdiv (2 ^ s) ≤ x := by
  have hp : (0 : Int) < 2 ^ s := Int.pow_pos (by decide)
  rw [fdiv_pow]
  exact ⟨Int.ediv_nonneg h (Int.le_of_lt hp), Int.ediv_le_self _ h⟩
theorem good_step {n x S : Int} {j1 j2 k : Nat} {d1 d2 : List Int} (hx : 0 ≤ x) (hS : S.toNat = n.toNat * j1) (hk : k = j1 + j2)
    (g1 : Good n.toNat j1 (Builtin.bitXor x (x.fdiv (2 ^ S.toNat) * 2 ^ S.toNat)) d1) (g2 : Good n.toNat j2 (x.fdiv (2 ^ S.toNat)) d2) : Good n.toNat k x (d1 ++ d2) := by
  have hp : (0 : Int) < 2 ^ (n.toNat * j1) := Int.pow_pos (by decide)
  rw [hS] at g1 g2
  rw [xor_low hx] at g1
  rw [fdiv_pow] at g2
  subst hk
  refine good_append g1 g2 (Int.emod_lt_of_pos _ hp) ?_ (Int.emod_nonneg _ (Int.ne_of_gt hp))
  have := Int.mul_ediv_add_emod x (2 ^ (n.toNat * j1))
  omega
theorem bits_pos {x : Int} (h : x ≠ 0) : 1 ≤ Builtin.Int.intBits x := by
  unfold Builtin.Int.intBits
  rw [if_neg (by simpa using h)]; omega
theorem D_nat {B : Nat} {n : Int} (hn : 0 < n) : ((B : Int) + n - 1).fdiv n = (((B + (n.toNat - 1)) / n.toNat : Nat) : Int) ∧ 0 < n.toNat := by
  obtain ⟨m, rfl⟩ := Int.eq_ofNat_of_zero_le (Int.le_of_lt hn)
  have hm : 0 < m := Int.ofNat_lt.mp hn
  refine ⟨?_, by rw [Int.toNat_natCast]; exact hm⟩
  rw [Int.fdiv_eq_ediv_of_nonneg _ (Int.natCast_nonneg _), Int.toNat_natCast, Int.natCast_ediv]
  congr 1
  obtain ⟨k, rfl⟩ := Nat.exists_eq_succ_of_ne_zero (Nat.ne_of_gt hm)
  show (B : Int) + ((k + 1 : Nat) : Int) - 1 = ((B + k : Nat) : Int)
  omega
theorem D_pos {x n : Int} {D : Nat} (hx : x ≠ 0) (hn : 0 < n) (hn2 : n < 4) (hD : ((Builtin.Int.intBits x : Int) + n - 1).fdiv n = D) : 0 < D := by
  obtain ⟨e, hm⟩ := D_nat (B := Builtin.Int.intBits x) hn
  rw [e] at hD
  rw [← Int.ofNat.inj hD]
  exact Nat.div_pos (by have := bits_pos hx; omega) hm
theorem splice_all {α : Type} {X v : List α} {hi : Nat} (h : X.length = hi) : X.take (Int.toNat 0) ++ v ++ X.drop ((hi : Int)).toNat = v := by
  rw [Int.toNat_natCast, List.drop_of_length_le (by omega)]; simp
theorem good_len {n k k' : Nat} {x : Int} {ds : List Int} (g : Good n k x ds) (h : ds.length = k') : Good n k' x ds := by
  have := g.1
  have e : k = k' := by omega
  rw [← e]; exact g
theorem D_zero {x n : Int} {D : Nat} (hx : x = 0) (hn : 0 < n) (hn2 : n < 4) (hD : ((Builtin.Int.intBits x : Int) + n - 1).fdiv n = D) : D = 0 := by
  subst hx
  obtain ⟨e, hm⟩ := D_nat (B := Builtin.Int.intBits 0) hn
  rw [e] at hD
  rw [← Int.ofNat.inj hD]
  exact Nat.div_eq_of_lt (by show 0 + (n.toNat - 1) < n.toNat; omega)
noncomputable def seg (ds : List Int) (lo hi : Nat) : List Int := (ds.drop lo).take (hi - lo)
theorem seg_all (ds : List Int) : seg ds 0 ds.length = ds := by simp [seg]
theorem seg_split {ds : List Int} {lo M hi : Nat} (h1 : lo ≤ M) (h2 : M ≤ hi) : seg ds lo hi = seg ds lo M ++ seg ds M hi := by
  unfold seg
  rw [show hi - lo = (M - lo) + (hi - M) from sub_mid h1 h2, List.take_add, List.drop_drop, show lo + (M - lo) = M from Nat.add_sub_cancel' h1]
theorem seg_len {ds : List Int} {lo hi : Nat} (h : hi ≤ ds.length) : (seg ds lo hi).length = hi - lo := by
  unfold seg; rw [List.length_take, List.length_drop]; exact Nat.min_eq_left (Nat.sub_le_sub_right h lo)
theorem seg_mem {ds : List Int} {lo hi : Nat} {d : Int} (h : d ∈ seg ds lo hi) : d ∈ ds := List.mem_of_mem_drop (List.mem_of_mem_take h)
theorem seg_one {ds : List Int} {lo : Nat} (h : lo < ds.length) (n : Nat) : dval n (seg ds lo (lo + 1)) = ds.getD lo 0 := by
  unfold seg
  rw [show lo + 1 - lo = 1 from Nat.add_sub_cancel_left _ _, List.drop_eq_getElem_cons h, List.take_succ_cons, List.take_zero]
  simp [dval, h]
theorem seg_dval {ds : List Int} {lo M hi n : Nat} (h1 : lo ≤ M) (h2 : M ≤ hi) (h3 : hi ≤ ds.length) : dval n (seg ds lo hi) = dval n (seg ds M hi) * 2 ^ (n * (M - lo)) + dval n (seg ds lo M) := by
  rw [seg_split h1 h2, dval_append, seg_len (by omega), Int.mul_comm, Int.add_comm]
theorem dval_lt (n : Nat) : ∀ (ds : List Int), (∀ d ∈ ds, 0 ≤ d ∧ d < 2 ^ n) → dval n ds < 2 ^ (n * ds.length)
  | [], _ => by simp [dval]
  | d :: ds, h => by
    have h1 := (h d (.head _)).2
    have h2 := dval_lt n ds fun e he => h e (.tail _ he)
    have hp : (0 : Int) < 2 ^ n := Int.pow_pos (by decide)
    simp only [dval, List.length_cons, Nat.mul_succ, Int.pow_add]
    have h3 : dval n ds + 1 ≤ 2 ^ (n * ds.length) := h2
    have h4 := Int.mul_le_mul_of_nonneg_left h3 (Int.le_of_lt hp)
    rw [Int.mul_add, Int.mul_one, Int.mul_comm (2 ^ n) (2 ^ (n * ds.length))] at h4
    omega
theorem dval_small {n : Nat} {ds : List Int} (h : ∀ d ∈ ds, 0 ≤ d ∧ d < 2 ^ n) {B : Nat} (hB : n * ds.length ≤ B) : 0 ≤ dval n ds ∧ dval n ds < 2 ^ B := by
  refine ⟨dval_nonneg n ds fun d hd => (h d hd).1, Int.lt_of_lt_of_le (dval_lt n ds h) ?_⟩
  exact_mod_cast Nat.pow_le_pow_right (by decide) hB
theorem bits_b {b : Int} (h : 0 < b) (h2 : b < 5) : (0 : Int) < (Builtin.Int.intBits b : Int) ∧ (Builtin.Int.intBits b : Int) < 4 ∧ b < 2 ^ (Builtin.Int.intBits b) := by
  have := four_b h h2
  rcases this with rfl | rfl | rfl | rfl <;> decide +kernel
theorem bits_lt {x : Int} (h : 0 ≤ x) : x < 2 ^ (Builtin.Int.intBits x) ∧ ∀ k : Nat, x < 2 ^ k → Builtin.Int.intBits x ≤ k := by
  obtain ⟨n, rfl⟩ := Int.eq_ofNat_of_zero_le h
  have e : ∀ k : Nat, ((n : Int) < 2 ^ k) ↔ n < 2 ^ k := fun k => by exact_mod_cast Iff.rfl
  constructor
  · rw [e]
    have := (intBits_le_iff (m := Builtin.Int.intBits (n : Int)) (x := (n : Int))).mp (Nat.le_refl _)
    simpa using this
  · intro k hk
    rw [e] at hk
    exact intBits_le_iff.mpr (by simpa using hk)
theorem D_of {x n : Int} (hx : 0 ≤ x) (hx2 : x < 256) (hn : 0 < n) (hn2 : n < 4) : ∃ D : Nat, ((Builtin.Int.intBits x : Int) + n - 1).fdiv n = D ∧ D ≤ 8 ∧ x < 2 ^ (n.toNat * D) := by
  obtain ⟨h1, h2⟩ := bits_lt hx
  have h3 := h2 8 hx2
  obtain ⟨e, hm⟩ := D_nat (B := Builtin.Int.intBits x) hn
  refine ⟨_, e, ?_, Int.lt_of_lt_of_le h1 ?_⟩
  · exact Nat.div_le_of_le_mul (by omega)
  · have h4 := Nat.lt_mul_div_succ (Builtin.Int.intBits x + (n.toNat - 1)) hm
    rw [Nat.mul_succ] at h4
    have h5 : Builtin.Int.intBits x ≤ n.toNat * ((Builtin.Int.intBits x + (n.toNat - 1)) / n.toNat) := by omega
    exact_mod_cast Nat.pow_le_pow_right (by decide) h5
noncomputable def tval (n : Nat) : List Int → Int → Int
  | [], a => a
  | d :: l, a => tval n l (a * 2 ^ n + d)
theorem tval_append (n : Nat) : ∀ (l l' : List Int) (a : Int), tval n (l ++ l') a = tval n l' (tval n l a)
  | [], _, _ => rfl
  | d :: l, l', a => tval_append n l l' _
theorem tval_rev (n : Nat) : ∀ (l : List Int), tval n l.reverse 0 = dval n l
  | [] => rfl
  | d :: l => by
    rw [List.reverse_cons, tval_append, tval_rev n l]
    simp only [tval, dval]
    rw [Int.mul_comm, Int.add_comm]
theorem dval_rev (n : Nat) (l : List Int) : dval n l.reverse = tval n l 0 := by rw [← tval_rev, List.reverse_reverse]
theorem div_step {b r d : Int} {n : Nat} (hb : 0 < b) (h0 : 0 ≤ r) (h1 : r < b) (hd : 0 ≤ d) (hd2 : d < 2 ^ n) :
    0 ≤ (r * 2 ^ n + d).fdiv b ∧ (r * 2 ^ n + d).fdiv b < 2 ^ n ∧ 0 ≤ (r * 2 ^ n + d).fmod b ∧ (r * 2 ^ n + d).fmod b < b ∧ 0 ≤ r * 2 ^ n + d ∧ r * 2 ^ n + d < b * 2 ^ n := by
  have hp : (0 : Int) < 2 ^ n := Int.pow_pos (by decide)
  have h2 := Int.mul_nonneg h0 (Int.le_of_lt hp)
  have h3 : (r + 1) * 2 ^ n ≤ b * 2 ^ n := Int.mul_le_mul_of_nonneg_right h1 (Int.le_of_lt hp)
  rw [Int.add_mul, Int.one_mul] at h3
  rw [Int.fdiv_eq_ediv_of_nonneg _ (Int.le_of_lt hb), Int.fmod_eq_emod_of_nonneg _ (Int.le_of_lt hb)]
  refine ⟨Int.ediv_nonneg (by omega) (Int.le_of_lt hb), Int.ediv_lt_of_lt_mul hb ?_, Int.emod_nonneg _ (by omega), Int.emod_lt_of_pos _ hb, by omega, by omega⟩
  rw [Int.mul_comm] at h3 ⊢
  rw [Int.mul_comm (2 ^ n) b] 
  omega
theorem div_keep {b r d q0 : Int} {n : Nat} (hb : 0 < b) : b * (q0 * 2 ^ n + (r * 2 ^ n + d).fdiv b) + (r * 2 ^ n + d).fmod b = (b * q0 + r) * 2 ^ n + d := by
  rw [Int.fdiv_eq_ediv_of_nonneg _ (Int.le_of_lt hb), Int.fmod_eq_emod_of_nonneg _ (Int.le_of_lt hb)]
  have := Int.mul_ediv_add_emod (r * 2 ^ n + d) b
  rw [Int.mul_add, Int.add_mul, Int.mul_assoc]
  omega
theorem div_end {b q r x : Int} (hb : 0 < b) (h : b * q + r = x) (h0 : 0 ≤ r) (h1 : r < b) : x.fdiv b = q ∧ x.fmod b = r := by
  subst h
  rw [Int.fdiv_eq_ediv_of_nonneg _ (Int.le_of_lt hb), Int.fmod_eq_emod_of_nonneg _ (Int.le_of_lt hb)]
  constructor
  · rw [Int.mul_add_ediv_left _ _ (by omega), Int.ediv_eq_zero_of_lt h0 h1, Int.add_zero]
  · rw [Int.mul_add_emod_self_left, Int.emod_eq_of_lt h0 h1]
theorem bitNot_eq (z : Int) : Builtin.bitNot z = -z - 1 := by
  unfold Builtin.bitNot; omega
theorem neg_div {x b : Int} (hx : x < 0) (hb : 0 < b) : x.fdiv b = Builtin.bitNot ((Builtin.bitNot x).fdiv b) ∧ x.fmod b = b + Builtin.bitNot ((Builtin.bitNot x).fmod b) := by
  have h1 := Int.mul_ediv_add_emod (Builtin.bitNot x) b
  have h2 := Int.emod_nonneg (Builtin.bitNot x) (b := b) (by omega)
  have h3 := Int.emod_lt_of_pos (Builtin.bitNot x) hb
  rw [Int.fdiv_eq_ediv_of_nonneg (Builtin.bitNot x) (Int.le_of_lt hb), Int.fmod_eq_emod_of_nonneg (Builtin.bitNot x) (Int.le_of_lt hb)]
  refine div_end hb ?_ ?_ ?_
  · rw [bitNot_eq ((Builtin.bitNot x) / b), bitNot_eq ((Builtin.bitNot x) % b), Int.mul_sub, Int.mul_neg, Int.mul_one]
    have h4 := bitNot_eq x
    omega
  · rw [bitNot_eq ((Builtin.bitNot x) % b)]; omega
  · rw [bitNot_eq ((Builtin.bitNot x) % b)]; omega

end
-- PA
section
open PySem PySem.W PyProof.Rows
set_option autoImplicit false
theorem hi_eq {a k : Nat} {hi : Int} (h : hi - (a : Int) = k) : hi = ((a + k : Nat) : Int) := by rw [Int.natCast_add]; omega
theorem half_nat (a k : Nat) : ((a : Int) + ((a + k : Nat) : Int)).fdiv (2 ^ Int.toNat 1) = ((a + k / 2 : Nat) : Int) := by
  rw [half_fdiv]; exact ints_half a k
theorem sub_l (a p : Nat) : ((a + p : Nat) : Int) - (a : Int) = (p : Nat) := by rw [Int.natCast_add]; omega
theorem sub_r {k : Nat} (a : Nat) : ((a + k : Nat) : Int) - ((a + k / 2 : Nat) : Int) = ((k - k / 2 : Nat) : Int) := by
  rw [← Int.ofNat_sub (Nat.add_le_add_left (Nat.div_le_self k 2) a), Nat.add_sub_add_left]
theorem one_of {a k : Nat} (h : (a : Int) + 1 = ((a + k : Nat) : Int)) : k = 1 := by omega
theorem ne_one {a k : Nat} (h : (a : Int) + 1 ≠ ((a + k : Nat) : Int)) : k ≠ 1 := fun e => h (by rw [e]; rfl)
/-- the two halves of k -/
inductive HalfF (k p q dp un : Nat) : Prop
  | mk : p < k → 0 < p → q < k → 0 < q → k = p + q → dp + 1 + p ≤ 700 → un + 3 + 8 * p ≤ 800 → dp + 1 + q ≤ 700 → un + 3 + 8 * q ≤ 800 → HalfF k p q dp un
theorem halfF {k dp un : Nat} (h1 : k ≠ 1) (h0 : 0 < k) (hd : dp + k ≤ 700) (hu : un + 8 * k ≤ 800) : HalfF k (k / 2) (k - k / 2) dp un := by
  have a : 0 < k / 2 := Nat.div_pos (by omega) (by decide)
  have b : k / 2 < k := Nat.div_lt_self h0 (by decide)
  generalize k / 2 = p at a b
  obtain ⟨q, rfl⟩ := Nat.exists_eq_add_of_lt b
  have e : p + q + 1 - p = q + 1 := by omega
  rw [e]
  exact ⟨b, a, by omega, Nat.succ_pos _, rfl, by omega, by omega, by omega, by omega⟩
theorem shiftN {n : Int} (a : Nat) {k N : Nat} (hk : ((a + k : Nat) : Int) ≤ N) (hN : N ≤ 64) (hn : 0 < n) (hn2 : n < 4) : 0 ≤ (((a : Int) + ((a + k : Nat) : Int)).fdiv (2 ^ Int.toNat 1) - a) * n ∧ (((a : Int) + ((a + k : Nat) : Int)).fdiv (2 ^ Int.toNat 1) - a) * n ≤ 64 * 3 ∧ 0 ≤ ((a : Int) + ((a + k : Nat) : Int)).fdiv (2 ^ Int.toNat 1) - a ∧ ((a : Int) + ((a + k : Nat) : Int)).fdiv (2 ^ Int.toNat 1) - a ≤ 64 := by
  rw [half_nat, sub_l]
  have b : ((k / 2 : Nat) : Int) ≤ 64 := by omega
  exact ⟨Int.mul_nonneg (Int.natCast_nonneg _) (Int.le_of_lt hn), Int.mul_le_mul b (Int.le_of_lt_add_one hn2) (Int.le_of_lt hn) (by decide), Int.natCast_nonneg _, b⟩
theorem shift_nat {n : Int} (a p : Nat) (hn : 0 < n) : ((((a + p : Nat) : Int) - (a : Int)) * n).toNat = n.toNat * p := by
  rw [sub_l, Int.toNat_mul (Int.natCast_nonneg _) (Int.le_of_lt hn), Int.toNat_natCast, Nat.mul_comm]
theorem splice_len {α : Type} {l ds : List α} {a b : Nat} (h : a ≤ b) (h2 : b ≤ l.length) (h3 : ds.length = b - a) : (l.take a ++ ds ++ l.drop b).length = l.length := by
  rw [List.length_append, List.length_append, List.length_take, List.length_drop, h3, Nat.min_eq_left (Nat.le_trans h h2)]; omega
theorem seg_small {n : Int} {ds : List Int} (hn : 0 < n) (hn2 : n < 4) (hds : ∀ d ∈ ds, 0 ≤ d ∧ d < 2 ^ n.toNat) (hl : ds.length ≤ 8) (i j : Nat) : 0 ≤ dval n.toNat (seg ds i j) ∧ dval n.toNat (seg ds i j) < 16777216 :=
  dval_small (B := 24) (fun d hd => hds d (seg_mem hd)) (by
    have h1 : (seg ds i j).length ≤ 8 := by
      unfold seg
      rw [List.length_take, List.length_drop]
      exact Nat.le_trans (Nat.min_le_right _ _) (Nat.le_trans (Nat.sub_le _ _) hl)
    exact Nat.mul_le_mul (n₂ := 3) (by omega) h1)
theorem seg_halves {n a p k : Nat} {ds : List Int} (h : p ≤ k) (h2 : a + k ≤ ds.length) : dval n (seg ds a (a + k)) = dval n (seg ds (a + p) (a + k)) * 2 ^ (n * p) + dval n (seg ds a (a + p)) := by
  rw [seg_dval (M := a + p) (Nat.le_add_right _ _) (Nat.add_le_add_left h a) h2, Nat.add_sub_cancel_left]

end
-- B9
section
/-- a code table, whatever it holds -/
noncomputable def T99 (t : Obj) : Prop := ∃ ps : Array Value, t = tabObj ps ∧ TriplesOk ps.toList
/-- contract of _translate: it may fill its code table 99 and push finished generators -/
noncomputable def TTr (w : World) (loose : List Str) (mean : ExcName → Option Value) (mg mb : Str → Option Value) (dp un : Nat) (f : Addr)
    (pre : List (Addr × Obj) → Prop) (vs : List Value) (Res : List (Addr × Obj) → Value → Prop) : Prop :=
  ∀ (dp' un' : Nat) (gd : Option (List Code)) (cn : Str) (cs : Scope) (a : Addr) (ccd : Value) (cl : List (Str × Addr)) (outer : List Env) (A₀ : Around) (base h₀ : Heap) (L : Addr)
    (m : Str → Option Value) (t9 : Obj) (rest : List (Addr × Obj)) (s : Shared) (Q E : Value → Shared → Prop), dp' ≤ dp → un' ≤ un →
    Below A₀ base outer h₀ → Fr h₀ L s.heap m → (hd.heap_1 w.params).In h₀ → News h₀ L s.heap ((99, t9) :: rest) → Top topProg loose mean mg mb h₀ → cs.kind = .function →
    CodeHd base 103 99 → (∀ p ∈ rest, p.1 ≠ 99) → 103 < L → T99 t9 → AllBare s.gens → pre rest →
    (∀ r add t9' h' g' tk', Fr h₀ L h' m → News h₀ L h' ((99, t9') :: (add ++ rest)) → (∀ p ∈ add, ∀ q ∈ rest, q.1 < p.1) → (∀ p ∈ add, (99 : Addr) < p.1) → T99 t9' → AllBare g' → Res add r → Q r { s with heap := h', gens := g', toks := tk' }) →
    wpAny (model PySem.Challenge.rw_ij0118_01.row.prog w) (ktrTop dp' un' gd cn cs L a ccd cl outer) (call (.ref f) vs) Q E s
/-- what a text holds at a place -/
structure ItemAt (P : Str) (i : Int) (c : Str) : Prop where
  lo : 0 ≤ i
  hi : i < P.length
  it : Txt.item P i = c

end
-- B10
section
open PySem PySem.W PyProof.Rows PySem.Calls PySem.Spec PySem.Builtin
noncomputable abbrev bndO (a : Addr) : Obj := { cls := .type "builtin_function_or_method", data := .fields #[.builtin "list.append", .ref a] }
theorem slot_mdget : Slot "method_descriptor" "__get__" "method_descriptor.__get__" :=
  .of (owner := "method_descriptor") (n := "__get__") (by rw [typeLookup_type, builtinLookup_eq_fast]; kernel_rfl) (by decide +kernel) (by decide +kernel) (by decide +kernel)
    (by first | exact .inl (by decide +kernel) | exact .inr (by decide +kernel)) (by rw [isSubtype_type]; kernel_rfl)
theorem entry_mdget : entryFor table "method_descriptor.__get__" = some Builtin.«method_descriptor.__get__» := entryFor_of_tree (by kernel_rfl)
theorem args_mdget (a b c : Value) : argsOk "method_descriptor.__get__" ⟨[a, b, c], []⟩ := by unfold argsOk; kernel_rfl
theorem type_la : typeOf (.builtin "list.append") = pure (.type "method_descriptor") := by show builtinType _ = _; rw [builtinType_eq_fast]; kernel_rfl
theorem look_la : typeLookup (.type "list") "append" = pure (some (.builtin "list.append")) := by rw [typeLookup_type, builtinLookup_eq_fast]; kernel_rfl
theorem md_set : typeLookup (.type "method_descriptor") "__set__" = pure none := by rw [typeLookup_type, builtinLookup_eq_fast]; kernel_rfl
theorem md_del : typeLookup (.type "method_descriptor") "__delete__" = pure none := by rw [typeLookup_type, builtinLookup_eq_fast]; kernel_rfl
theorem owner_la : (kfb_private% "ownerAndName") "list.append" = ("list", "append") := by first | decide +kernel | kernel_rfl
theorem told_la : Manifest.toldItsClass.contains "list.append" = false := by decide +kernel
theorem list_sub : isSubtype (.type "list") (.type "list") = pure true := by rw [isSubtype_type]; kernel_rfl
section
variable {prog : Program} {w : World} {M : Model} {A : Around} {E : Value → Shared → Prop} {s : Shared} {h₀ : Heap} {L a : Addr} {m : PySem.Str → Option Value} {news : List (Addr × Obj)}
theorem run_mdget {P : Fin → Shared → Prop} (hT : s.TypeIs (.ref a) "list") (h : P (.done (.ret (.ref s.heap.objs.size))) { s with heap := s.heap.push (bndO a) }) :
    wpAny M A (Builtin.«method_descriptor.__get__» ⟨[.builtin "list.append", .ref a, .type "list"], []⟩) P E s := by
  unfold Builtin.«method_descriptor.__get__»
  refine wpAny_bind (wpAny_of_eq (a := (.builtin "list.append", some (.ref a), some (.type "list"))) (by first | rfl | kernel_rfl) ?_)
  simp only [told_la]
  refine KFB.if_not rfl ?_
  show wpAny M A ((kfb_private% "checkInstance") (.builtin "list.append") (.ref a) >>= fun _ => (newFields "builtin_function_or_method" [.builtin "list.append", .ref a] >>= ret)) P E s
  refine wpAny_bind ?_
  show wpAny M A ((kfb_private% "nameAndClass") (.builtin "list.append") >>= _) _ _ _
  refine wpAny_bind (wpAny_of_eq (a := ((("append" : PySem.Str)), .type "list")) (by first | rfl | kernel_rfl) ?_)
  refine wpAny_bind (wpAny_isInstance hT list_sub ?_)
  refine KFB.if_not rfl (wpAny_pure ?_)
  exact wpAny_bind (wpAny_newObj_type (wpAny_pure h))
theorem meets_append (a : Addr) (xs : Array Value) (k : Nat) (sl : Array (Option Value)) (u : Tok) :
    Meets (Builtin.«object.__getattribute__» ⟨[.ref a, .str "append" u], []⟩) (fun _ R s => s.heap.get? a = some { cls := .type "list", dict := none, data := .seq xs k, slots := sl } ∧ R (.ok (.ret (.ref s.heap.objs.size))) { s with heap := s.heap.push (bndO a) }) :=
  Meets.of_wp fun prog w A R s hs => by
    obtain ⟨hp, g, d, tk, os⟩ := s
    obtain ⟨hx, hs⟩ := hs
    have hT : (⟨hp, g, d, tk, os⟩ : Shared).TypeIs (.ref a) "list" := ⟨_, hx, rfl⟩
    have hname : (["__module__", "__name__", "__qualname__", "__doc__", "__annotations__"] : List PySem.Str).contains ("append" : PySem.Str) = false := by decide +kernel
    have l1 := look_la
    have l2 := type_la
    have l3 := md_set
    have l4 := md_del
    have l5 := slot_mdget.lookup
    unfold Builtin.«object.__getattribute__»
    repeat (any_goals (first | assumption | ((with_reducible show wpAny _ _ (call (Value.builtin "method_descriptor.__get__") _ _) _ _ _); refine wpAny_call_entry slot_mdget type_la entry_mdget (run_mdget hT ⟨_, rfl, ?_⟩) (args_mdget _ _ _)) | wp_step))
    exact ⟨_, rfl, hs⟩
theorem getAttr_append {x : Addr} {its : Array Value} {n : Nat} {Q : Value → Shared → Prop} (Fh : Fr h₀ L s.heap m) (N : News h₀ L s.heap news) (hm : (x, listOf its n) ∈ news)
    (h : ∀ q h', Fr h₀ L h' m → News h₀ L h' ((q, bndO x) :: news) → (∀ p ∈ news, p.1 < q) → Q (.ref q) { s with heap := h', toks := s.toks + 1 }) :
    wpAny (model prog w) A (getAttr (.ref x) "append" true) Q E s := by
  have hx := (N _ hm).1
  have h' := h s.heap.objs.size _ (Fh.push _) (News.push Fh N _) fun p hp => Heap.lt_size (N p hp).1
  obtain ⟨hp, g, d, tk, os⟩ := s
  have hT : ∀ tk', (⟨hp, g, d, tk', os⟩ : Shared).TypeIs (.ref x) "list" := fun _ => ⟨_, hx, rfl⟩
  have f3 := F.slot_list_getattribute.lookup
  have f4 := F.slot_list_getattribute.bind (.ref x)
  have f5 := am_list_getattr_none
  unfold getAttr getAttrBy
  repeat (any_goals (first | assumption | exact hT _ | ((with_reducible show wpAny _ _ (call (Value.builtin "list.__getattribute__") _ _) _ _ _); refine call_meets F.slot_list_getattribute (hT _) am_entry_list_getattribute (F.args_list_getattribute_2 _ _) (meets_append x its n #[] _) ⟨hx, ?_⟩) | wp_step))
  show wpAny _ _ (handedOut (.ref _)) _ _ _
  exact wpAny_pure h'
theorem sig_some : (Manifest.signature? "list.append").isSome = true := by decide +kernel
noncomputable def sigLa : Manifest.Signature := (Manifest.signature? "list.append").get sig_some
theorem sig_la : Manifest.signature? "list.append" = some sigLa := by simp [sigLa]
theorem kind_la : builtinKind "list.append" = some .method := by decide +kernel
theorem mod_la : isSubtype (.type "list") (.type "module") = pure false := by rw [isSubtype_type]; kernel_rfl
theorem check_la (D x : Value) : Bind.checkArgs "list.append" { sigLa with full := s!"{Bind.lastOf "list"}.{Bind.lastOf "list.append"}" } ⟨[D, x], []⟩ = pure () := by kernel_rfl
theorem var_la : Manifest.varargsMethods.contains "list.append" = false := by decide +kernel
theorem type_li : isType (.type "list") = pure true := by first | rfl | kernel_rfl | (unfold isType; rw [isSubtype_type]; kernel_rfl)
theorem check_bnd {D : Addr} {x : Value} {Q : Unit → Shared → Prop} {its : Array Value} {n : Nat} (ho : s.heap.get? D = some (listOf its n)) (h : Q () s) : wpAny M A (checkBoundCall "list.append" ⟨[.ref D, x], []⟩) Q E s := by
  have hT : s.TypeIs (.ref D) "list" := ⟨_, ho, rfl⟩
  unfold checkBoundCall
  rw [sig_la]
  dsimp only
  rw [kind_la]
  dsimp only
  refine KFB.if_not (by decide) ?_
  refine wpAny_bind (wpAny_isInstance hT mod_la ?_)
  refine KFB.if_not (by rw [var_la]; rfl) ?_
  refine wpAny_bind (wpAny_bind (wpAny_loadPart ho (wpAny_pure ?_)))
  dsimp only
  refine KFB.if_not (by rfl) ?_
  refine wpAny_bind (wpAny_typeOf hT ?_)
  dsimp only
  exact wpAny_of_eq (check_la _ _) h
theorem call_bnd {q D : Addr} {its : Array Value} {n : Nat} {x : Value} {news' : List (Addr × Obj)} {Q : Value → Shared → Prop} (Fh : Fr h₀ L s.heap m) (N : News h₀ L s.heap news) (hq : (q, bndO D) ∈ news)
    (U : Upd D (listOf its n) (listOf (its.push x) (n + 1)) news news') (h : ∀ h', Fr h₀ L h' m → News h₀ L h' news' → Q .none { s with heap := h' }) (hsz : its.size ≤ sizeLine := by size_fits) :
    wpAny (model prog w) A (call (.ref q) [x]) Q E s := by
  obtain ⟨pre, post, rfl, rfl, a, b⟩ := U.split
  have z := N (D, listOf its n) (List.mem_append.mpr (.inr (.head _)))
  have hqq := (N _ hq).1
  refine wpAny_call (codeAny_of_tree ?_)
  show wpAny _ A.in1 (callAny (.ref q) ⟨[x], []⟩) _ _ s
  simp only [callAny]
  refine wpAny_bind (wpAny_load hqq ?_)
  simp only [show (Value.type "builtin_function_or_method" == Value.type "method" || Value.type "builtin_function_or_method" == Value.type "builtin_function_or_method" || Value.type "builtin_function_or_method" == Value.type "method-wrapper") = true by decide, if_true]
  refine KFB.if_so (by decide) ?_
  refine wpAny_bind (check_bnd z.1 ?_)
  refine wpAny_bind (wpAny_pure (wpAny_pure ?_))
  refine ⟨Code.quiet_builtin _ (by decide +kernel), codeAny_builtin entry_list_append ?_⟩
  show wpAny _ _ (updateSeq D (·.push x) >>= fun _ => ret .none) _ _ s
  refine wpAny_bind ?_
  refine wpAny_updateSeq z.1 rfl (wpAny_pure ?_)
  have ho' : (s.heap.update D (Obj.mapSeq fun a => a.push x)).get? D = some { cls := .type "list", data := .seq (its.push x) (n + 1) } := by
    rw [Heap.get?_update_self _ z.1 (by rw [mapSeq_push]; rfl), mapSeq_push]
  have hs : Heap.SameBut D s.heap (s.heap.update D (Obj.mapSeq fun a => a.push x)) := Heap.SameBut.update ..
  exact h _ (Fh.change hs z.2.1 z.2.2) (news_set N a b hs ho')
noncomputable def StandsB (x D : Addr) (h : Heap) : Prop := h.get? x = some (bndO D)
theorem standsB_of {x D : Addr} {h : Heap} (N : News h₀ L h news) (hm : (x, bndO D) ∈ news) : StandsB x D h := N.get hm
theorem callWith_bnd0 {pos : Pos} {u D : Addr} {first : List Value} {args : List (Bool × Sem Value)} {Q : Value → Shared → Prop} (hplain : args.any (·.1) = false)
    (h : wpAny M A (evalArgs (.ref u) true args []) (fun x s₁ => StandsB u D s₁.heap ∧ wpAny M A (call (.ref u) (first ++ x.pos) x.kw) Q E s₁) E s) : wpAny M A (callWith pos (.ref u) first args []) Q E s := by
  unfold callWith
  refine wpAny_bind (wpAny_holding (wpAny_mono h (fun x s₁ h₁ => wpAny_bind (wpAny_standAt ?_)) fun _ _ x => x))
  obtain ⟨ho, hcall⟩ := h₁
  simp only [hplain, List.any_nil, Bool.or_false]
  refine wpAny_bind (m := keeperOf (.ref u)) ?_
  unfold keeperOf
  refine wpAny_bind (wpAny_load ho ?_)
  simp only [show (Value.type "builtin_function_or_method" != Value.type "method") = true by decide, show (Value.type "builtin_function_or_method" == Value.type "builtin_function_or_method" || Value.type "builtin_function_or_method" == Value.type "method-wrapper") = true by decide, if_true]
  refine wpAny_pure ?_
  exact wpAny_bind (wpAny_mono hcall (fun r s₂ hr => wpAny_bind (wpAny_holding (wpAny_point (wpAny_pure hr)))) fun _ _ x => x)
theorem callWith_bnd {pos : Pos} {u D : Addr} {first : List Value} {env : Env} {e : PySem.Expr} {rest : List PySem.Expr} {Q : Value → Shared → Prop} (_N : News h₀ L s.heap news) (_hm : (u, bndO D) ∈ news)
    (h : wpAny M A (spliced (backTo pos (starEach (e :: rest) env))) (fun vs s₁ => StandsB u D s₁.heap ∧ wpAny M A (call (.ref u) (first ++ vs)) Q E s₁) E s)
    (he : starEach (e :: rest) env = (false, eval e env) :: starEach rest env := by rfl) (hplain : (backTo pos (starEach rest env)).any (·.1) = false := by rfl) :
    wpAny M A (callWith pos (.ref u) first (backTo pos (starEach (e :: rest) env)) []) Q E s := by
  rw [he] at h ⊢
  refine callWith_bnd0 (D := D) (by show (false || (backTo pos (starEach rest env)).any (·.1)) = false; rw [hplain]; rfl) ?_
  exact evalArgs_plain h
end

end
-- B11
section
section
variable {prog : Program} {w : World} {A : Around} {E : Value → Shared → Prop} {s : Shared} {env : Env} {test : PySem.Expr} {body : List Stmt} {pos : Pos} {Q : Flow → Shared → Prop}
theorem While_G (I : Nat → Shared → Prop) {n₀ : Nat} (h0 : I n₀ s)
    (turn : ∀ n s', I n s' → wpAny (model prog w) A (isTrue test env (eval test env)) (fun b s₂ => if b = true then wpAny (model prog w) A (execs body env) (fun f s₃ => f = .next ∧ ∃ n', n' < n ∧ I n' s₃) E s₂ else Q .next s₂) E s')
    (hE : PassesOwn (model prog w) A env E) : wpAny (model prog w) A (exec (.While test body [] pos) env) Q E s := by
  refine wpAny_While (codeAny_whileLoop I ?_ n₀ h0)
  intro n s' hI
  refine wpAny_mono (turn n s' hI) (fun b s₂ h₂ => ?_) hE
  cases b with
  | false =>
    simp only [Bool.false_eq_true, if_false] at h₂ ⊢
    exact wpAny_execs_nil h₂
  | true =>
    simp only [if_true] at h₂ ⊢
    refine wpAny_mono h₂ (fun f s₃ h₃ => ?_) hE
    obtain ⟨rfl, n', hn, h₄⟩ := h₃
    exact ⟨n', hn, h₄⟩
/-- a cut behind a statement -/
theorem cut_rest {st : Stmt} {rest : List Stmt} {A : Around} {M : Model} (C : Shared → Prop) (h1 : ∀ s', C s' → wpAny M A (execs rest env) Q E s') (h2 : wpAny M A (exec st env) (fun f s' => f = .next ∧ C s') E s) : wpAny M A (execs (st :: rest) env) Q E s := by
  refine wpAny_execs_cons (wpAny_mono h2 (fun f s' h => ?_) fun _ _ e => e)
  obtain ⟨rfl, hc⟩ := h
  exact h1 s' hc
end
section
variable {prog : Program} {w : World} {A : Around} {E : Value → Shared → Prop} {s : Shared} {value slice : PySem.Expr} {x c : PySem.Str} {t u : Tok} {i : Int} {Q : Value → Shared → Prop}
theorem item_at (hI : ItemAt x i c) (hx : x.length ≤ 1000) (h : Q (.str c s.toks) { s with toks := s.toks + 1 })
    (hs : subscripted slice false (.str x t) (.int i u) = operate [.str x t, .int i u] (getItem (.str x t) (.int i u)) := by with_unfolding_all rfl)
    (ht : ∀ r, letTemporaryGo value (.str x t) r = pure () := by intro _; with_unfolding_all rfl) :
    wpAny (model prog w) A (subscriptTail value slice (.str x t) (.int i u)) Q E s := by
  obtain ⟨h0, h1, rfl⟩ := hI
  exact KXi.item rfl (by omega) h1 (by omega) (fun _ => h) hs ht
end
section
variable {prog : Program} {w : World} {A : Around} {E : Value → Shared → Prop} {s : Shared} {x y : PySem.Str} {t u : Tok} {b : Bool} {Q : Value → Shared → Prop}
theorem eq_lit (hb : (x == y) = b) (h : Q (.bool b) s) : wpAny (model prog w) A (compareOp .Eq (.str x t) (.str y u)) Q E s := eq_str (by rw [hb]; exact h)
theorem ne_lit (hb : (x != y) = b) (h : Q (.bool b) s) : wpAny (model prog w) A (compareOp .NotEq (.str x t) (.str y u)) Q E s := ne_str (by rw [hb]; exact h)
theorem in_lit (hb : (!(Builtin.Str.occurrences x y 0 x.length 1).isEmpty) = b) (h : Q (.bool b) s) : wpAny (model prog w) A (compareOp .In (.str y u) (.str x t)) Q E s := in_str (by rw [hb]; exact h)
theorem notIn_lit (hb : (!(!(Builtin.Str.occurrences x y 0 x.length 1).isEmpty)) = b) (h : Q (.bool b) s) : wpAny (model prog w) A (compareOp .NotIn (.str y u) (.str x t)) Q E s := notIn_str (by rw [hb]; exact h)
end

end
-- P2
section
noncomputable def catS : List Str → Str
  | [] => ⟨#[]⟩
  | t :: r => t ++ catS r
theorem catS_append : ∀ (a b : List Str), catS (a ++ b) = catS a ++ catS b
  | [], b => by
    apply Str.ext'
    show (catS b).cps = (⟨#[]⟩ ++ catS b : Str).cps
    rw [Str.cps_append]; simp
  | t :: a, b => by
    show t ++ catS (a ++ b) = t ++ catS a ++ catS b
    rw [catS_append a b]
    apply Str.ext'
    simp only [Str.cps_append, Array.append_assoc]
noncomputable def offs (ts : List Str) (k : Nat) : Int := ((catS (ts.take k)).length : Int)
theorem catS_split {ts : List Str} {k : Nat} {t : Str} (hk : ts[k]? = some t) : catS ts = catS (ts.take k) ++ (t ++ catS (ts.drop (k + 1))) := by
  have h1 : ts = ts.take k ++ t :: ts.drop (k + 1) := by
    obtain ⟨hlt, rfl⟩ := List.getElem?_eq_some_iff.mp hk
    rw [← List.drop_eq_getElem_cons hlt, List.take_append_drop]
  conv => lhs; rw [h1]
  rw [catS_append]; rfl
theorem len_app (a b : Str) : (a ++ b).length = a.length + b.length := by
  show (a ++ b).cps.size = _
  rw [Str.cps_append, Array.size_append]; rfl
theorem offs_succ {ts : List Str} {k : Nat} {t : Str} (hk : ts[k]? = some t) : offs ts (k + 1) = offs ts k + t.length := by
  have : ts.take (k + 1) = ts.take k ++ [t] := by rw [List.take_add_one, hk]; rfl
  unfold offs
  rw [this, catS_append, len_app]
  show ((_ + (t ++ ⟨#[]⟩ : Str).length : Nat) : Int) = _
  rw [len_app]
  simp [Str.length]
theorem offs_le {ts : List Str} {k : Nat} {t : Str} (hk : ts[k]? = some t) : offs ts k + t.length ≤ (catS ts).length ∧ 0 ≤ offs ts k := by
  rw [catS_split hk, len_app, len_app]
  unfold offs
  omega
theorem offs_all (ts : List Str) : offs ts ts.length = (catS ts).length := by unfold offs; rw [List.take_length]
theorem item_nat {x : Str} {j : Nat} (hj : j < x.length) : Txt.item x (j : Nat) = ⟨#[(x.cps[j]?).getD 0]⟩ := by
  unfold Txt.item Txt.charAt
  rw [show (seqIndex? ((j : Nat) : Int) x.length) = some j from by unfold seqIndex?; simp; exact ix_in hj]
  rfl
theorem item_cat {ts : List Str} {k : Nat} {t : Str} (hk : ts[k]? = some t) {j : Nat} (hj : j < t.length) : ItemAt (catS ts) (offs ts k + j) (Txt.item t j) := by
  obtain ⟨h1, h2⟩ := offs_le hk
  refine ⟨by omega, by omega, ?_⟩
  have e : offs ts k + j = (((catS (ts.take k)).length + j : Nat) : Int) := by unfold offs; push_cast; rfl
  rw [e, item_nat (by have := e; omega), item_nat hj, catS_split hk, Str.cps_append, Str.cps_append]
  have e1 : (catS (List.take k ts)).length = (catS (List.take k ts)).cps.size := rfl
  have e2 : j < t.cps.size := hj
  rw [e1, Array.getElem?_append_right (by omega), Nat.add_sub_cancel_left, Array.getElem?_append_left e2]
theorem ItemAt.to {P c c' : Str} {i i' : Int} (h : ItemAt P i c) (e : i = i') (e2 : c = c') : ItemAt P i' c' := by subst e; subst e2; exact h
noncomputable def TX : Nat → Str
  | 0 => Str.ofString "?" | 1 => Str.ofString "[ab]" | 2 => Str.ofString "[!a]" | 3 => Str.ofString "[a-c]" | 4 => Str.ofString "[c-]" | 5 => Str.ofString "[!-b]" | 6 => Str.ofString "c"
  | 7 => Str.ofString "[!b-a]" | 8 => Str.ofString "[!a-b]" | 9 => Str.ofString "[b-a]" | _ => Str.ofString "-"
noncomputable def PT : Nat → Str
  | 0 => Str.ofString "." | 1 => Str.ofString "[ab]" | 2 => Str.ofString "[^a]" | 3 => Str.ofString "[a-c]" | 4 => Str.ofString "[c\\-]" | 5 => Str.ofString "[^\\-b]" | 6 => Str.ofString "c"
  | 7 => Str.ofString "." | 8 => Str.ofString "[^a-b]" | 9 => Str.ofString "(?!)" | _ => Str.ofString "\\-"
noncomputable def KD : Nat → Str
  | 0 => Str.ofString "-abc" | 1 => Str.ofString "ab" | 2 => Str.ofString "-bc" | 3 => Str.ofString "abc" | 4 => Str.ofString "-c" | 5 => Str.ofString "ac" | 6 => Str.ofString "c"
  | 7 => Str.ofString "-abc" | 8 => Str.ofString "-c" | 9 => Str.ofString "" | _ => Str.ofString "-"
theorem TX_len : ∀ i, i < 11 → 0 < (TX i).length ∧ (TX i).length ≤ 6 := by decide +kernel
theorem offs_end {ts : List Str} {k : Nat} (h : ts.length ≤ k) : offs ts k = (catS ts).length := by unfold offs; rw [List.take_of_length_le h]

end
-- B12
section
section
variable {M : Model} {A : Around} {E : Value → Shared → Prop} {s : Shared}
theorem genexprCode_any {env : Env} {c P : Addr} {t9 : Obj} {pos : Pos} {qualname : Str} {scope : Scope} {Q : Value → Shared → Prop} (hc : env.code = .ref c) (C : CodeHd s.heap c P) (hP : s.heap.get? P = some t9) (ok : T99 t9)
    (hQ : ∀ code h' tk t9', Heap.ExtBut P s.heap h' → s.heap.objs.size ≤ h'.objs.size → h'.get? P = some t9' → T99 t9' → Q code { s with heap := h', toks := tk }) : wpAny M A (genexprCode env pos qualname scope) Q E s := by
  obtain ⟨ps, rfl, ht⟩ := ok
  cases hnf : codeAmong pos ps.toList with
  | some cv => exact wpAny_genexprCode_hit hc (C.code hP ht) hnf (hQ cv s.heap s.toks _ (Heap.ExtBut.refl _ _) (Nat.le_refl _) hP ⟨ps, rfl, ht⟩)
  | none =>
    refine wpAny_genexprCodeX hc (C.code hP ht) (C.tab hP) hnf fun c' h' tk hx hge hlt hco _ htb _ => hQ _ h' tk _ hx (Nat.le_trans hge (Nat.le_of_lt hlt)) htb.2 ⟨_, rfl, ?_⟩
    obtain ⟨_, _, _, _, _, _, _, _, _, op, _, _, _, _, _, _, _, hop, hpd, htr, _⟩ := hco
    exact htr
end
section
variable {prog : Program} {w : World} {A : Around} {E : Value → Shared → Prop} {s : Shared} {h₀ : Heap} {c P L D : Addr} {m mg mb : Str → Option Value} {news : List (Addr × Obj)} {g : Obj → List (Addr × Obj)} {t9 : Obj} {p : Program} {loose : List Str} {mean : ExcName → Option Value}
theorem gen_src {f : Str → Str} {vs : List Value} {ss : List Str} {n : Nat} {env : Env} {elt iter : PySem.Expr} {x : Str} {px : Pos} {scope : Scope} {cl : List (Str × Addr)} {pos : Pos} {Q : Value → Shared → Prop}
    (F : Fr h₀ L s.heap m) (N : News h₀ L s.heap news) (U : UpdF P t9 news g) (ok : T99 t9) (C : CodeHd h₀ c P) (hcode : env.code = .ref c) (T : Top p loose mean mg mb h₀) (hg0 : env.globals = mainGlobals) (G : AllBare s.gens)
    (hD : (D, listOf vs.toArray n) ∈ news) (hDP : D ≠ P) (hss : StrsAre vs ss) (hh : A.handled = none) (hco : scope.isCoroutine = false) (hclos : closureFor scope env = pure cl) (hcell : ∀ y ∈ scope.names, y.2 ≠ .cell) (h0 : scope.names.lookup (".0" : Str) = some NameKind.local)
    (hx : scope.names.lookup x = some .local) (hkind : scope.kind = .function) (hroom : A.depth < recursionLimit)
    (e1 : wpAny (model prog w) A (eval iter env) (fun xv s₁ => xv = .ref D ∧ s₁ = s) E s)
    (helt : ∀ code Cc A' E' a t u m₂, Around.handled A' = none → A'.depth ≤ A.depth + 1 → A'.units ≤ A.units + 8 → a ∈ ss → Heap.Ns (Shared.heap u) Cc m₂ → m₂ x = some (.str a t) →
      wpAny (model prog w) A' (eval elt (genEnv scope cl Cc code builtinsNs env)) (fun y s₃ => (∃ t', y = .str (f a) t') ∧ Keeps u s₃) E' u)
    (hQ : ∀ a h' g' tk t9' Kb, Fr h₀ L h' m → News h₀ L h' (g t9') → T99 t9' → AllBare g' → @LE.le Nat _ L Kb → (∀ q ∈ g t9', @LE.le Nat _ q.1 Kb) →
      GenOnD prog w A Kb a ss (fun _ => true) (fun k => .str (f k)) { s with heap := h', gens := g', toks := tk } → Q (.ref a) { s with heap := h', gens := g', toks := tk })
    (hs : ∀ x, genFold iter env x = pure x) :
    wpAny (model prog w) A (eval (.GeneratorExp elt [⟨.Name x px, iter, [], 0⟩] scope pos) env) Q E s := by
  obtain ⟨own, rest, rfl, hgr, h1, h2⟩ := U.split
  have hm := N (P, t9) (List.mem_append_right _ (.head _))
  have hgs := T.g.keeps F.keep
  obtain ⟨bm, ob, b1, b2, b3, b4, b5, b6⟩ := T.bmain
  obtain ⟨ps9, ht9, hok9⟩ := id ok
  have hgP : mainGlobals ≠ P := fun q => by
    obtain ⟨o, es, ep, e, hd, _⟩ := hgs
    rw [q, hm.1] at e; cases e; rw [ht9] at hd; cases hd
  have hbP : bm ≠ P := fun q => by
    have e := F.keep _ _ b3
    rw [q, hm.1] at e; cases e; rw [ht9] at b4; cases b4
  have hcP : cStatics ≠ P := fun e => by
    obtain ⟨_, hns, _⟩ := T.nolimit.keeps F.keep
    obtain ⟨o, es, ep, ho, hd, _⟩ := hns
    rw [e, hm.1] at ho; cases ho; rw [ht9] at hd; cases hd
  have hlD := (N _ hD).1
  have hl : s.heap.IsList D vs.toArray := ⟨_, hlD, rfl, n, rfl⟩
  have hlt : D < s.heap.objs.size := Heap.lt_size hlD
  have hlen := hss.len_eq
  refine wpAny_GeneratorExp_walksQD hh hco hclos hcell h0 hx hkind hroom (wpAny_mono e1 (fun xv s₁ h₁ => ?_) fun _ _ e => e) hs
  obtain ⟨rfl, rfl⟩ := h₁
  refine wpAny_pyIter_list hl ?_
  refine ⟨(T.nolimit.keeps F.keep).push _, ?_⟩
  have up : ∀ b o, s₁.heap.get? b = some o → (s₁.heap.push { cls := .type "list_iterator", data := .fields #[.ref D, .int 0 0] }).get? b = some o := fun b o e => Heap.get?_push_of_some _ e
  refine genexprCode_any hcode ((C.keeps F.keep).keeps up) (up _ _ hm.1) ok fun code h₃ tk₃ t9' hx₃ hsz₃ hP₃ ok' => ?_
  dsimp only at hx₃ hsz₃
  have hPlt : P < s₁.heap.objs.size := Heap.lt_size hm.1
  have old : ∀ b o, b ≠ P → s₁.heap.get? b = some o → h₃.get? b = some o := fun b o hb e => hx₃ b o hb (up _ _ e)
  have hI₃ : h₃.get? s₁.heap.objs.size = some { cls := .type "list_iterator", data := .fields #[.ref D, .int 0 0] } := hx₃ _ _ (Nat.ne_of_gt hPlt) (Heap.get?_push_size _ rfl)
  have hbo := old _ _ hbP (F.keep _ _ b3)
  have hgs₃ : h₃.Ns mainGlobals mg := (hgs.keeps up).extBut hx₃ hgP
  have hl₃ : h₃.NoLimit := ((T.nolimit.keeps F.keep).push _).extBut hx₃ hcP
  have hne0 : bm ≠ builtinsNs := b2
  refine wpAny_builtinsFor (by rw [hg0]; exact hgs₃) b1 hne0 hbo b4 b5 b6 ?_
  rw [Heap.size_push] at hsz₃
  have hLs : L < s₁.heap.objs.size := F.ns.lt
  have hcw : cStatics ≠ s₁.heap.objs.size := by
    obtain ⟨_, hns, _⟩ := T.nolimit.keeps F.keep
    exact Nat.ne_of_lt hns.lt
  refine ⟨s₁.heap.objs.size, [s₁.heap.objs.size, D], [s₁.heap.objs.size], vs.toArray.size, _, _, (fun i => (ss[i]?.map (fun _ => true)).getD false), (fun i y => ∃ b, ss[i]? = some b ∧ Carried y (.str (f b))), rfl, (fun A' hA => Walks.list hA _ _ (Nat.ne_of_lt hlt) vs.toArray), ⟨⟨_, hI₃, rfl, rfl⟩, ⟨_, old _ _ hDP hlD, rfl, n, rfl⟩⟩, ?_, hl₃, ?_, ?_, ?_⟩
  · intro b hb
    rcases List.mem_cons.mp hb with rfl | hb
    · exact Nat.lt_of_lt_of_le (Nat.lt_succ_self _) hsz₃
    · rcases List.mem_cons.mp hb with rfl | hb
      · exact Nat.lt_of_lt_of_le (Nat.lt_succ_of_lt hlt) hsz₃
      · cases hb
  · intro hb
    exact hcw (List.mem_singleton.mp hb)
  · intro href hhref
    refine ⟨fun A' E' i v t m₂ hA hD' hU hP hn hm₂ hkp => ?_, fun A' E' i v t m₂ hA hD' hU hP hp hn hm₂ hkp => ?_⟩
    · obtain ⟨y, ty, rfl, hy⟩ := hss.item i v (by simpa using hP)
      exact wpAny_pure ⟨by simp [hy], t.heap, t.toks, rfl, fun _ _ e => e⟩
    · obtain ⟨y, ty, rfl, hy⟩ := hss.item i v (by simpa using hP)
      refine wpAny_mono (helt code _ A' E' y ty t m₂ hA hD' hU (List.mem_of_getElem? hy) hn hm₂) (fun y' s₃ r => ?_) fun _ _ e => e
      obtain ⟨⟨t', rfl⟩, hk⟩ := r
      exact ⟨⟨y, hy, .str _ _⟩, hk⟩
  · intro a h₅ tk gs hgb hag hsz₅ hk₅ W hat
    have k5 : ∀ b o, b ≠ P → s₁.heap.get? b = some o → h₅.get? b = some o := fun b o hb e => hk₅ b o (old b o hb e)
    have hX : Gen prog w A (s₁.heap.objs.size - 1) a (passing (fun i => (ss[i]?.map (fun _ => true)).getD false) vs.toArray.size 0).length (fun j y => ∃ i, (passing (fun i => (ss[i]?.map (fun _ => true)).getD false) vs.toArray.size 0)[j]? = some i ∧ ∃ b, ss[i]? = some b ∧ Carried y (.str (f b))) { s₁ with heap := h₅, gens := s₁.gens.push gs, toks := tk } := by
      refine ⟨_, _, _, _, W, hat, (fun i s' st => st.1.typeIs), List.mem_cons_self, ?_, ?_⟩
      · intro b hb
        show b < h₅.objs.size
        rw [hsz₅]
        rcases List.mem_cons.mp hb with rfl | hb
        · exact Nat.lt_succ_self _
        · rcases List.mem_cons.mp hb with rfl | hb
          · exact Nat.lt_succ_of_lt hag
          · exact Nat.lt_succ_of_lt (Nat.lt_trans (List.mem_range.mp hb) hag)
      · intro b hb
        rcases List.mem_cons.mp hb with rfl | hb
        · exact Nat.lt_of_lt_of_le (Nat.sub_lt_of_pos_le Nat.one_pos (Nat.succ_le_of_lt (Nat.lt_of_le_of_lt (Nat.zero_le _) hlt))) (Nat.le_trans (Nat.le_succ _) hsz₃)
        · rw [List.mem_singleton.mp hb]
          exact Nat.sub_lt_of_pos_le Nat.one_pos (Nat.succ_le_of_lt (Nat.lt_of_le_of_lt (Nat.zero_le _) hlt))
    refine hQ a h₅ (s₁.gens.push gs) tk t9' (s₁.heap.objs.size - 1) ⟨F.ns.at' fun o e => k5 _ o hm.2.1.symm e, fun b o e => k5 b o (fun q => by rw [q, hm.2.2] at e; cases e) (F.keep b o e), F.above⟩ ?_ ok' (G.push hgb) (Nat.le_pred_of_lt hLs) ?_ ?_
    · rw [hgr]
      intro q hq
      rcases List.mem_append.mp hq with hq | hq
      · exact ⟨k5 _ _ (h1 q hq) (N q (List.mem_append_left _ hq)).1, (N q (List.mem_append_left _ hq)).2⟩
      · rcases List.mem_cons.mp hq with rfl | hq
        · exact ⟨hk₅ _ _ hP₃, hm.2⟩
        · exact ⟨k5 _ _ (h2 q hq) (N q (List.mem_append_right _ (.tail _ hq))).1, (N q (List.mem_append_right _ (.tail _ hq))).2⟩
    · rw [hgr]
      intro q hq
      rcases List.mem_append.mp hq with hq | hq
      · exact Nat.le_pred_of_lt (Heap.lt_size (N q (List.mem_append_left _ hq)).1)
      · rcases List.mem_cons.mp hq with rfl | hq
        · exact Nat.le_pred_of_lt hPlt
        · exact Nat.le_pred_of_lt (Heap.lt_size (N q (List.mem_append_right _ (.tail _ hq))).1)
    · have hszz : vs.toArray.size = ss.length := by simp [hlen]
      rw [hszz] at hX
      have hidx := idx_map ss (fun _ => true)
      have hpass : passing (fun i => (ss[i]?.map (fun _ => true)).getD false) ss.length 0 = (List.range ss.length).filter fun i => (ss[i]?.map (fun _ => true)).getD false := by simp [passing]
      rw [hpass] at hX
      have hln : ((List.range ss.length).filter fun i => (ss[i]?.map (fun _ => true)).getD false).length = (ss.filter (fun _ => true)).length := by simpa using congrArg List.length hidx
      rw [hln] at hX
      refine hX.imp fun j y hy => ?_
      obtain ⟨i, hij, b, hb, hc⟩ := hy
      refine ⟨b, ?_, hc⟩
      have := congrArg (fun l => l[j]?) hidx
      simp only [List.getElem?_map, hij, Option.map_some, hb] at this
      cases hq : (ss.filter (fun _ => true))[j]? with
      | none => rw [hq] at this; simp at this
      | some b' => rw [hq] at this; simp at this; rw [this]
end

end
-- P3
section
open PySem PySem.W PyProof.Rows PySem.Calls PySem.Spec PySem.Builtin PySem.Builtin.Str
theorem picked_range (a b n : Nat) (h1 : a ≤ b) (h2 : b ≤ n) : strSliceIndices (some (a : Int)) (some (b : Int)) 1 n = List.range' a (b - a) := by
  unfold strSliceIndices sliceRange
  simp only [show (1 : Int) > 0 by decide, if_true]
  have e1 : ∀ c : Nat, c ≤ n → Max.max (0 : Int) (Min.min (if (c : Int) < 0 then (c : Int) + n else c) n) = c := by
    intro c hc
    rw [if_neg (Int.not_lt.mpr (Int.natCast_nonneg c))]; exact clip hc
  rw [e1 a (Nat.le_trans h1 h2), e1 b h2]
  have e2 : (if (a : Int) < b then ((b : Int) - a + 1 - 1) / 1 else 0).toNat = b - a := by
    split
    · rw [Int.ediv_one, Int.add_sub_cancel]; exact Int.toNat_sub b a
    · rename_i hn; exact (Nat.sub_eq_zero_of_le (Int.ofNat_le.mp (Int.not_lt.mp hn))).symm
  rw [e2, List.range'_eq_map_range]
  apply List.map_congr_left
  intro k _
  rw [Int.one_mul]; rfl
theorem range_pick {α : Type} (l : List α) : ∀ (n a : Nat), a + n ≤ l.length → (List.range' a n).filterMap (l[·]?) = (l.drop a).take n
  | 0, a, _ => by simp
  | n + 1, a, h => by
    rw [List.range'_succ, List.filterMap_cons, List.getElem?_eq_getElem (by omega)]
    dsimp only
    have ih := range_pick l n (a + 1) (by omega)
    rw [List.drop_eq_getElem_cons (by omega), List.take_succ_cons, ← ih]
theorem slice_range (x : Str) (a b : Nat) (h1 : a ≤ b) (h2 : b ≤ x.length) : Txt.slice x (some (a : Int)) (some (b : Int)) = ⟨x.cps.extract a b⟩ := by
  unfold Txt.slice
  rw [picked_range a b _ h1 h2]
  have hx : x.length = x.cps.size := rfl
  have e : ((List.range' a (b - a)).filterMap (x.cps[·]?)).toArray = x.cps.extract a b := by
    apply Array.ext'
    have h3 : (fun i : Nat => x.cps[i]?) = fun i : Nat => x.cps.toList[i]? := by funext i; simp
    rw [h3, range_pick _ _ _ (by rw [Array.length_toList]; omega)]
    simp [Array.toList_extract, List.extract_eq_take_drop]
  split
  · rename_i h
    simp at h
    have : a = 0 ∧ b = x.cps.size := by omega
    obtain ⟨rfl, rfl⟩ := this
    cases x; simp
  · rw [e]
structure SliceAt (P : Str) (i j : Int) (S : Str) : Prop where
  it : Txt.slice P (some i) (some j) = S
theorem extract_mid (a t b : Array Nat) (i j : Nat) (h : j ≤ t.size) : (a ++ (t ++ b)).extract (a.size + i) (a.size + j) = t.extract i j := by
  apply Array.ext'
  simp only [Array.toList_extract, Array.toList_append, List.extract_eq_take_drop]
  rw [← Array.length_toList, ← List.drop_drop, List.drop_left, show a.toList.length + j - (a.toList.length + i) = j - i from add_sub_l _ _ _]
  rcases Nat.le_total i j with h1 | h1
  · have : i ≤ t.toList.length := by rw [Array.length_toList]; omega
    rw [List.drop_append_of_le_length this, List.take_append_of_le_length (by rw [List.length_drop, Array.length_toList]; exact Nat.sub_le_sub_right h i)]
  · rw [show j - i = 0 by omega]; simp
theorem slice_cat {ts : List Str} {k : Nat} {t : Str} (hk : ts[k]? = some t) {i j : Nat} (hij : i ≤ j) (hj : j ≤ t.length) : SliceAt (catS ts) (offs ts k + i) (offs ts k + j) ⟨t.cps.extract i j⟩ := by
  obtain ⟨h1, h2⟩ := offs_le hk
  have e : ∀ c : Nat, offs ts k + c = (((catS (ts.take k)).length + c : Nat) : Int) := by intro c; unfold offs; push_cast; rfl
  refine ⟨?_⟩
  have h3 := e j
  rw [e i, e j, slice_range _ _ _ (by omega) (by omega), catS_split hk, Str.cps_append, Str.cps_append]
  congr 1
  exact extract_mid _ _ _ _ _ hj
theorem SliceAt.to {P S S' : Str} {i i' j j' : Int} (h : SliceAt P i j S) (e : i = i') (e1 : j = j') (e2 : S = S') : SliceAt P i' j' S' := by subst e; subst e1; subst e2; exact h
noncomputable def findR (x y : Str) (i j : Int) : Int := match occurrences x y (fromIndex x.length i) (min (fromIndex x.length j) x.length) 1 with | k :: _ => (k : Int) | [] => -1
structure FindAt (P y : Str) (i j r : Int) : Prop where
  it : findR P y i j = r
theorem gives_find_range (x y : Str) (i j : Int) (t u v v' : Tok) : Gives («str.find» ⟨[.str x t, .str y u, .int i v, .int j v'], []⟩) (.int (findR x y i j)) := by
  show Gives (match occurrences x y (fromIndex x.length i) (min (fromIndex x.length j) x.length) 1 with | k :: _ => retInt k | [] => (do rule "str.find.not-found"; retInt (-1))) _
  unfold findR
  cases occurrences x y (fromIndex x.length i) (min (fromIndex x.length j) x.length) 1 with
  | nil => exact .rule (.of_eq rfl)
  | cons k _ => exact .of_eq rfl
open StrLaws in
theorem occ_shift (P t y : Str) (o j : Nat) (hsub : ∀ m, m + y.length ≤ j → subAt P y (o + m) = subAt t y m) : ∀ (l : List Nat) (a : Array Nat) (f : Nat),
    (forIn (l.map (o + ·)) (a.map (o + ·), o + f) (occBody P y (o + j) 1)).run = ((forIn l (a, f) (occBody t y j 1)).run.1.map (o + ·), o + (forIn l (a, f) (occBody t y j 1)).run.2)
  | [], a, f => rfl
  | m :: l, a, f => by
    rw [List.map_cons, List.forIn_cons, List.forIn_cons]
    have hc : (((((a.map (o + ·)).size < 1 ∧ o + f ≤ o + m) ∧ (o + m) + y.length ≤ o + j) ∧ subAt P y (o + m) = true) ↔ (((a.size < 1 ∧ f ≤ m) ∧ m + y.length ≤ j) ∧ subAt t y m = true)) := by
      rw [Array.size_map]
      constructor
      · rintro ⟨⟨⟨h1, h2⟩, h3⟩, h4⟩
        exact ⟨⟨⟨h1, by omega⟩, by omega⟩, by rw [← hsub m (by omega)]; exact h4⟩
      · rintro ⟨⟨⟨h1, h2⟩, h3⟩, h4⟩
        exact ⟨⟨⟨h1, by omega⟩, by omega⟩, by rw [hsub m h3]; exact h4⟩
    unfold occBody
    by_cases hq : ((a.size < 1 ∧ f ≤ m) ∧ m + y.length ≤ j) ∧ subAt t y m = true
    · rw [if_pos (hc.mpr hq), if_pos hq]
      have := occ_shift P t y o j hsub l (a.push m) (m + y.length)
      rw [Array.map_push] at this
      unfold occBody at this
      simpa [Nat.add_assoc] using this
    · rw [if_neg (fun h => hq (hc.mp h)), if_neg hq]
      have := occ_shift P t y o j hsub l a f
      unfold occBody at this
      exact this
theorem find_cat {ts : List Str} {k : Nat} {t : Str} (hk : ts[k]? = some t) {i j : Nat} (hj : j ≤ t.length) (y : Str) : FindAt (catS ts) y (offs ts k + i) (offs ts k + j) (match occurrences t y i j 1 with | f :: _ => offs ts k + f | [] => -1) := by
  obtain ⟨h1, h2⟩ := offs_le hk
  have e : ∀ c : Nat, offs ts k + c = (((catS (ts.take k)).length + c : Nat) : Int) := by intro c; unfold offs; push_cast; rfl
  refine ⟨?_⟩
  have h3 := e j
  have hf : ∀ c : Nat, fromIndex (catS ts).length (c : Int) = c := by
    intro c; unfold fromIndex; rw [if_neg (Int.not_lt.mpr (Int.natCast_nonneg c))]; exact max0 c
  unfold findR
  rw [e i, e j, hf, hf, Nat.min_eq_left (by omega)]
  generalize ho : (catS (ts.take k)).length = o
  have hsub : ∀ m, m + y.length ≤ j → subAt (catS ts) y (o + m) = subAt t y m := by
    intro m hm
    unfold subAt
    rw [catS_split hk, Str.cps_append, Str.cps_append, ← ho]
    have := extract_mid (catS (List.take k ts)).cps t.cps (catS (List.drop (k + 1) ts)).cps m (m + y.length) (by have : t.cps.size = t.length := rfl; omega)
    rw [show (catS (List.take k ts)).length + m + y.length = (catS (List.take k ts)).cps.size + (m + y.length) from Nat.add_assoc ..]
    exact congrArg (· == y.cps) this
  have hs := occ_shift (catS ts) t y o j hsub (List.range' i (j + 1 - i)) #[] i
  rw [StrLaws.occ_eq, StrLaws.occ_eq, show o + j + 1 - (o + i) = j + 1 - i from add_sub_l o i (j + 1)]
  have hr : List.range' (o + i) (j + 1 - i) = (List.range' i (j + 1 - i)).map (o + ·) := by
    rw [List.map_add_range']
  rw [hr]
  have h4 : ((#[] : Array Nat), o + i) = ((#[] : Array Nat).map (o + ·), o + i) := by simp
  rw [h4, hs]
  have ho2 : offs ts k = (o : Int) := by unfold offs; rw [ho]
  rw [ho2]
  generalize (forIn (List.range' i (j + 1 - i)) ((#[] : Array Nat), i) (StrLaws.occBody t y j 1)).run.1 = r
  rw [Array.toList_map]
  cases r.toList with
  | nil => rfl
  | cons f l => rfl
theorem FindAt.to {P y y' : Str} {i i' j j' r r' : Int} (h : FindAt P y i j r) (e : i = i') (e1 : j = j') (e2 : r = r') (e3 : y = y') : FindAt P y' i' j' r' := by subst e; subst e1; subst e2; subst e3; exact h
section
variable {prog : Program} {w : World} {A : Around} {E : Value → Shared → Prop} {s : Shared} {x y S : Str} {t u v v' : Tok} {i j r : Int} {Q : Value → Shared → Prop} {h₀ : Heap} {L : Addr} {m : Str → Option Value} {news : List (Addr × Obj)} {value slice : PySem.Expr}
theorem find_at (hf : FindAt x y i j r) (hq : Q (.int r s.toks) { s with toks := s.toks + 1 }) (ha : argsOk "str.find" ⟨[.str x t, .str y u, .int i v, .int j v'], []⟩ := by unfold argsOk; kernel_rfl) : wpAny (model prog w) A (call (.builtin "str.find") [.str x t, .str y u, .int i v, .int j v']) Q E s := by
  obtain ⟨rfl⟩ := hf
  exact call_gives F.slot_str_find (typeIs_str _ _ _) F.entry_str_find ha (gives_find_range x y i j t u v v') hq
theorem slice_at {ui uj : Tok} (hF : Fr h₀ L s.heap m) (hN : News h₀ L s.heap news) (hS : SliceAt x i j S) (hx : x.length ≤ 1000) (h : ∀ h' t' k, Fr h₀ L h' m → News h₀ L h' news → Q (.str S t') { s with heap := h', toks := k })
    (hs : subscripted slice false (.str x t) (.ref s.heap.objs.size) = operate [.ref s.heap.objs.size, .str x t] (getItem (.str x t) (.ref s.heap.objs.size)) := by with_unfolding_all rfl)
    (ht : ∀ r, letTemporaryGo value (.str x t) r = pure () := by intro _; with_unfolding_all rfl) :
    wpAny (model prog w) A (subscriptTail value slice (.str x t) (.ref s.heap.objs.size)) Q E { s with heap := s.heap.push { cls := .type "slice", data := .fields #[.int i ui, .int j uj, .none] } } := by
  obtain ⟨rfl⟩ := hS
  exact slice_strN_ss hF hN h hs ht (by rw [sizeLine_eq]; omega)
end

end
-- B13
section
open PySem PySem.W PyProof.Rows PySem.Calls PySem.Spec PySem.Builtin PySem.Builtin.Str
section
variable {M : Model} {A : Around} {E : Value → Shared → Prop} {s : Shared} {h₀ : Heap} {L a c P : Addr} {m mg mb : PySem.Str → Option Value} {cn : PySem.Str} {cs : Scope} {ccd : Value} {cl : List (PySem.Str × Addr)} {news : List (Addr × Obj)} {g : Obj → List (Addr × Obj)}
  {p : Program} {loose : List PySem.Str} {mean : ExcName → Option Value} {name qual : PySem.Str} {params : Arguments} {body : PySem.Expr} {scope : Scope} {t9 : Obj} {pos : Pos} {firstLine : Nat} {clos : List (PySem.Str × Addr)}
theorem lam_any {Q : Value → Shared → Prop} (F : Fr h₀ L s.heap m) (N : News h₀ L s.heap news) (T : Top p loose mean mg mb h₀) (C : CodeHd h₀ c P) (hcd : ccd = .ref c) (U : UpdF P t9 news g) (ok : T99 t9)
    (hcl : closureFor scope (envX cn cs L a ccd cl) = pure clos)
    (h : ∀ f o h' tk t9', Fr h₀ L h' m → News h₀ L h' ((f, o) :: g t9') → T99 t9' → o.cls = .type "function" → (∀ q ∈ news, q.1 < f) → Q (.ref f) { s with heap := h', toks := tk }) :
    wpAny M A (makeFunction name qual params (.expr body) scope (envX cn cs L a ccd cl) [] [] [] pos firstLine) Q E s := by
  obtain ⟨ps, rfl, ht⟩ := ok
  obtain ⟨own, rest, rfl, hgr, h1, h2⟩ := U.split
  have hm := N (P, tabObj ps) (List.mem_append_right _ (.head _))
  have hgs := T.g.keeps F.keep
  obtain ⟨bm, ob, b1, b2, b3, b4, b5, b6⟩ := T.bmain
  have hgP : mainGlobals ≠ P := fun q => by
    obtain ⟨o, es, ep, e, hd, _⟩ := hgs
    rw [q, hm.1] at e; cases e; cases hd
  have hbP : bm ≠ P := fun q => by
    have e := F.keep _ _ b3
    rw [q, hm.1] at e; cases e; cases b4
  have hbG : bm ≠ mainGlobals := fun q => by
    obtain ⟨o, es, ep, e, hd, _⟩ := T.g
    rw [q, e] at b3; cases b3; rw [hd] at b6; cases b6
  have hLs : L < s.heap.objs.size := F.ns.lt
  have hB : s.heap.BuiltinsAt mg P := ⟨bm, ob, b1, b2, hbG, hbP, F.keep _ _ b3, b4, b5, b6⟩
  have fresh : ∀ b, L < b → h₀.get? b = none := fun b hb => Heap.get?_none_of_le (Nat.le_trans F.above (Nat.le_of_lt hb))
  have fin : ∀ (t9' : Obj) (oF : Obj) (h' : Heap), T99 t9' → oF.isFreed = false → Heap.ExtBut P s.heap h' → s.heap.objs.size ≤ h'.objs.size → h'.get? P = some t9' →
      Fr h₀ L (h'.push oF) m ∧ News h₀ L (h'.push oF) ((h'.objs.size, oF) :: g t9') ∧ (∀ q ∈ own ++ (P, tabObj ps) :: rest, q.1 < h'.objs.size) := by
    intro t9' oF h' hok hoc hx hsz hP'
    have old : ∀ b o, h₀.get? b = some o → h'.get? b = some o := fun b o e => hx b o (fun q => by rw [q, hm.2.2] at e; cases e) (F.keep b o e)
    have hlt : L < h'.objs.size := Nat.lt_of_lt_of_le hLs hsz
    refine ⟨⟨(F.ns.extBut hx hm.2.1.symm).push _, fun b o e => Heap.get?_push_of_some _ (old b o e), F.above⟩, fun q hq => ?_, fun q hq => Nat.lt_of_lt_of_le (Heap.lt_size (N q hq).1) hsz⟩
    rcases List.mem_cons.mp hq with rfl | hq
    · exact ⟨Heap.get?_push_size _ hoc, Nat.ne_of_gt hlt, fresh _ hlt⟩
    · rw [hgr] at hq
      rcases List.mem_append.mp hq with hq | hq
      · exact ⟨Heap.get?_push_of_some _ (hx _ _ (h1 q hq) (N q (List.mem_append_left _ hq)).1), (N q (List.mem_append_left _ hq)).2⟩
      · rcases List.mem_cons.mp hq with rfl | hq
        · exact ⟨Heap.get?_push_of_some _ hP', hm.2⟩
        · exact ⟨Heap.get?_push_of_some _ (hx _ _ (h2 q hq) (N q (List.mem_append_right _ (.tail _ hq))).1), (N q (List.mem_append_right _ (.tail _ hq))).2⟩
  cases hnf : codeAmong pos ps.toList with
  | some cv =>
    refine kla_makeFunctionHit (mg := mg) hcl rfl hgs hcd (C.keeps F.keep) hm.1 ht hnf hB fun ctv h' tk hx hsz => ?_
    have hok : T99 (tabObj ps) := ⟨ps, rfl, ht⟩
    have fin' := fun oF hoF => fin (tabObj ps) oF h' hok hoF (fun b o _ e => hx b o e) hsz (hx _ _ hm.1)
    exact h _ _ _ tk (tabObj ps) (fin' _ rfl).1 (fin' _ rfl).2.1 hok rfl (fin' (tabObj ps) rfl).2.2
  | none =>
    refine kla_makeFunction (mg := mg) hcl rfl hgs hcd (C.keeps F.keep) hm.1 ht hnf hgP hB fun c' ctv h' tk hx hge hlt hrec htb => ?_
    have hok : T99 (tabObj (ps ++ #[rawInt pos.line, rawInt pos.col, .ref c'])) := ⟨_, rfl, by rw [Array.toList_append]; exact TriplesOk_snoc _ _ _ _ ht⟩
    have fin' := fun oF hoF => fin _ oF h' hok hoF hx (Nat.le_trans hge (Nat.le_of_lt hlt)) htb
    exact h _ _ _ tk _ (fin' _ rfl).1 (fin' _ rfl).2.1 hok rfl (fin' (tabObj ps) rfl).2.2
end
section
variable {prog : Program} {w : World} {A : Around} {E : Value → Shared → Prop} {s : Shared} {x y z : PySem.Str} {t u v : Tok} {Q : Value → Shared → Prop}
theorem replace_none (hc : (occurrences x y 0 x.length (x.length + 1)).isEmpty = true) (h : Q (.str x t) s) : wpAny (model prog w) A (call (.builtin "str.replace") [.str x t, .str y u, .str z v]) Q E s := by
  refine call_gives F.slot_str_replace (typeIs_str _ _ _) F.entry_str_replace (F.args_str_replace_3 _ _ _)
    (gives_str_replace x y z t u v fun hh => by rw [hc] at hh; simp at hh) ?_
  rw [hc]
  simp only [Bool.true_or, if_true]
  exact h
end

end
-- B14
section
open PySem PySem.W PyProof.Rows PySem.Calls PySem.Spec PySem.Builtin PySem.Builtin.Re
theorem plain_re : PlainAttrs "re.Pattern" :=
  ⟨⟨"object.__getattribute__", by rw [typeLookup_type, builtinLookup_eq_fast]; kernel_rfl, by decide +kernel⟩, by rw [typeLookup_type, builtinLookup_eq_fast]; kernel_rfl⟩
theorem slot_resub : Slot "re.Pattern" "sub" "re.Pattern.sub" :=
  .of (owner := "re.Pattern") (n := "sub") (by rw [typeLookup_type, builtinLookup_eq_fast]; kernel_rfl) (by decide +kernel) (by decide +kernel) (by decide +kernel)
    (by first | exact .inl (by decide +kernel) | exact .inr (by decide +kernel)) (by rw [isSubtype_type]; kernel_rfl)
theorem type_resub : typeOf (.builtin "re.Pattern.sub") = pure (.type "method_descriptor") := by show builtinType _ = _; rw [builtinType_eq_fast]; kernel_rfl
theorem entry_resub : entryFor table "re.Pattern.sub" = some Builtin.«re.Pattern.sub» := entryFor_of_tree (by kernel_rfl)
theorem entry_reloop : entryFor table "re.Pattern.sub.loop" = some Builtin.«re.Pattern.sub.loop» := entryFor_of_tree (by kernel_rfl)
theorem args_resub (a b c : Value) : argsOk "re.Pattern.sub" ⟨[a, b, c], []⟩ := by unfold argsOk; kernel_rfl
theorem fn_call : typeLookup (.type "function") "__call__" = pure (some (.builtin "function.__call__")) := by rw [typeLookup_type, builtinLookup_eq_fast]; kernel_rfl
theorem str_ba : isSubtype (.type "str") (.type "bytearray") = pure false := by rw [isSubtype_type]; kernel_rfl
theorem named_sub (a b : Value) : reNamed "re.Pattern.sub" "sub" ["repl", "string", "count"] 2 [a, b] [] = pure [some a, some b, none] := by first | rfl | kernel_rfl

noncomputable def reItems : Array Value := #[Value.int 14 0, Value.int 14 0, Value.int 4 0, Value.int 1 0, Value.int 1 0, Value.int 9 0, Value.int 0 0,
            Value.int 64 0, Value.int 0 0, Value.int 1342177280 0, Value.int 0 0, Value.int 0 0, Value.int 0 0,
            Value.int 0 0, Value.int 0 0, Value.int 17 0, Value.int 0 0, Value.int 13 0, Value.int 11 0, Value.int 9 0,
            Value.int 0 0, Value.int 64 0, Value.int 0 0, Value.int 1342177280 0, Value.int 0 0, Value.int 0 0,
            Value.int 0 0, Value.int 0 0, Value.int 0 0, Value.int 17 0, Value.int 1 0, Value.int 1 0]
noncomputable def reCode : Array Nat := (reItems.map reRawOf).map (·.toNat)
noncomputable def Miss (S : PySem.Str) : Prop := ((Sre.forSearch reCode S.cps 1 0 S.cps.size false).runFor 4).outcome = some .failed
section
variable {prog : Program} {w : World} {M : Model} {A : Around} {E : Value → Shared → Prop} {s : Shared} {re cd f : Addr} {S : PySem.Str} {t : Tok}
theorem whole_re {v0 : Value} {a b c : Tok} {n : Nat} {Q : ReTarget → Shared → Prop} (hre : s.heap.get? re = some { cls := .type "re.Pattern", data := .fields #[v0, .int 32 a, .int 1 b, .none, .none, .ref cd, .int 0 c] })
    (hcd : s.heap.get? cd = some { cls := .type "tuple", data := .seq reItems n })
    (h : Q { pattern := .ref re, string := .str S t, code := reCode, text := S.cps, kind := 0, groups := 1, pos := 0, lim := S.cps.size } s) : wpAny M A (reWholeTarget (.ref re) (.str S t)) Q E s := by
  unfold reWholeTarget
  refine wpAny_bind (wpAny_fieldsOf hre rfl ?_)
  have ht : reTextOf (.str S t) = pure (S.cps, 0) := by first | rfl | kernel_rfl
  refine wpAny_bind (wpAny_of_eq ht ?_)
  dsimp only
  refine KFB.if_not rfl (KFB.if_not rfl ?_)
  refine wpAny_bind (wpAny_of_eq (a := ()) rfl ?_)
  refine wpAny_bind ?_
  show wpAny M A (reRawItems (.ref cd)) _ _ _
  unfold reRawItems
  refine wpAny_bind ?_
  have hcd2 := hcd
  obtain ⟨hp, g, d, tk, os⟩ := s
  unfold seqItems?
  repeat (any_goals (first | assumption | wp_step))
theorem reNotHeld_str {id : String} {Q : Unit → Shared → Prop} (h : Q () s) : wpAny M A (reNotHeld id (.str S t)) Q E s := by
  unfold reNotHeld
  refine wpAny_bind (wpAny_isInstance_val (T := "str") rfl str_ba ?_)
  refine KFB.if_not rfl ?_
  exact wpAny_pure h
theorem run_resub {v0 : Value} {a b c : Tok} {n : Nat} {of : Obj} {P : Fin → Shared → Prop} (hre : s.heap.get? re = some { cls := .type "re.Pattern", data := .fields #[v0, .int 32 a, .int 1 b, .none, .none, .ref cd, .int 0 c] })
    (hcd : s.heap.get? cd = some { cls := .type "tuple", data := .seq reItems n }) (hf : s.heap.get? f = some of) (hfc : of.cls = .type "function")
    (h : P (.again (.builtin "re.Pattern.sub.loop" ⟨[.ref re, .str S t, .ref f, rawInt 1, rawInt 0, rawInt 0, rawInt 0, rawInt 0, .bool false, .ref s.heap.objs.size, .bool false], []⟩)) { s with heap := s.heap.push { cls := .type "list", data := .seq #[] } }) :
    wpAny M A (Builtin.«re.Pattern.sub» ⟨[.ref re, .ref f, .str S t], []⟩) P E s := by
  show wpAny M A (reSubstitute "re.Pattern.sub" "sub" false ⟨[.ref re, .ref f, .str S t], []⟩) P E s
  have hT : s.TypeIs (.ref f) "function" := ⟨_, hf, hfc⟩
  unfold reSubstitute
  dsimp only
  refine wpAny_bind (wpAny_of_eq (named_sub _ _) ?_)
  dsimp only
  refine wpAny_bind (wpAny_of_eq (a := (0 : Int)) rfl ?_)
  refine wpAny_bind (wpAny_specialOf hT fn_call ?_)
  refine wpAny_bind (wpAny_of_eq (a := false) rfl ?_)
  refine wpAny_bind (wpAny_of_eq (a := (Value.ref f, (1 : Int))) rfl ?_)
  dsimp only
  refine wpAny_bind (wpAny_holding (whole_re hre hcd ?_))
  refine KFB.if_so rfl (wpAny_bind (reNotHeld_str ?_))
  refine wpAny_bind ?_
  unfold newList
  refine wpAny_newObj_type ?_ (by size_fits)
  exact wpAny_pure h
theorem run_miss {Q : Option Sre.M → Shared → Prop} (hS : Miss S) (h : Q none s) : wpAny M A (reRunToEnd (Sre.forSearch reCode S.cps 1 0 S.cps.size false)) Q E s := by
  unfold reRunToEnd
  have e : reDrive (2 ^ 64) (Sre.forSearch reCode S.cps 1 0 S.cps.size false) = pure ((Sre.forSearch reCode S.cps 1 0 S.cps.size false).runFor 4) := by
    rw [show (2 ^ 64 : Nat) = (2 ^ 64 - 1) + 1 from rfl]
    unfold reDrive
    have h4 : ((Sre.forSearch reCode S.cps 1 0 S.cps.size false).runFor reTurnSteps).outcome.isSome = true := by
      show ((Sre.forSearch reCode S.cps 1 0 S.cps.size false).runFor 4).outcome.isSome = true
      rw [hS]; rfl
    simp only [h4, if_true]
    rfl
  refine wpAny_bind (wpAny_of_eq e ?_)
  have hl : ∀ (m : Sre.M) (l : List Nat) {Q' : PUnit → Shared → Prop}, Q' ⟨⟩ s → wpAny M A (forIn l PUnit.unit (fun i _ => if m.seen.has i = true then (rule (Sre.names.getD i "") >>= fun _ => pure (ForInStep.yield PUnit.unit) : Sem (ForInStep PUnit)) else pure (ForInStep.yield PUnit.unit))) Q' E s := by
    intro m l
    induction l with
    | nil => intro Q' hq; exact wpAny_pure hq
    | cons i l ih =>
      intro Q' hq
      rw [List.forIn_cons]
      refine wpAny_bind ?_
      split
      · exact wpAny_bind (wpAny_rule (wpAny_pure (ih hq)))
      · exact wpAny_pure (ih hq)
  refine wpAny_bind (hl _ _ ?_)
  have hS' : ((Sre.forSearch reCode S.cps 1 0 S.cps.size false).runFor 4).outcome = some .failed := hS
  rw [hS']
  exact wpAny_pure h
theorem run_reloop {v0 : Value} {a b c : Tok} {n : Nat} {l : Addr} {P : Fin → Shared → Prop} (hA : A.handled = none) (hre : s.heap.get? re = some { cls := .type "re.Pattern", data := .fields #[v0, .int 32 a, .int 1 b, .none, .none, .ref cd, .int 0 c] })
    (hcd : s.heap.get? cd = some { cls := .type "tuple", data := .seq reItems n }) (hl : s.heap.get? l = some { cls := .type "list", data := .seq #[] }) (hS : Miss S) (hsz : S.length ≤ 1000)
    (h : ∀ h' tk t', Heap.SameBut l s.heap h' → P (.done (.ret (.str S t'))) { s with heap := h', toks := tk }) :
    wpAny (model prog w) A (Builtin.«re.Pattern.sub.loop» ⟨[.ref re, .str S t, .ref f, rawInt 1, rawInt 0, rawInt 0, rawInt 0, rawInt 0, .bool false, .ref l, .bool false], []⟩) P E s := by
  unfold Builtin.«re.Pattern.sub.loop»
  dsimp only
  refine wpAny_bind (whole_re hre hcd ?_)
  dsimp only
  refine KFB.if_not rfl (wpAny_bind (KFB.if_not rfl ?_))
  show wpAny _ _ (reRunToEnd (Sre.forSearch reCode S.cps 1 0 S.cps.size false)) _ _ _
  refine run_miss hS ?_
  dsimp only
  have hcut : ∀ (s1 : Shared), ({ cps := #[].extract 0 0 } : PySem.Str).length ≤ sizeLine := by intro _; rw [sizeLine_eq]; decide
  by_cases hz : 0 < S.cps.size
  · rw [if_pos (show Int.toNat 0 < S.cps.size from hz)]
    have hx : (⟨S.cps.extract 0 S.cps.size⟩ : PySem.Str) = S := by cases S; simp
    refine wpAny_bind ?_
    show wpAny _ _ (mkStr ⟨S.cps.extract 0 S.cps.size⟩) _ _ _
    rw [hx]
    refine wpAny_mkStr ?_ (by rw [sizeLine_eq]; omega)
    refine wpAny_bind (wpAny_updateSeq hl rfl ?_)
    have ho' : (s.heap.update l (Obj.mapSeq fun a => a.push (.str S s.toks))).get? l = some { cls := .type "list", data := .seq ((#[] : Array Value).push (.str S s.toks)) (0 + 1) } := by
      rw [Heap.get?_update_self _ hl (by rw [mapSeq_push]; rfl), mapSeq_push]
    have hs : Heap.SameBut l s.heap (s.heap.update l (Obj.mapSeq fun a => a.push (.str S s.toks))) := Heap.SameBut.update ..
    refine wpAny_bind ?_
    show wpAny _ _ (mkStr ⟨S.cps.extract 0 0⟩) _ _ _
    refine wpAny_mkStr ?_ (by rw [sizeLine_eq]; simp [PySem.Str.length])
    refine wpAny_bind (wpAny_seqItems ho' rfl ?_)
    refine KFB.if_not rfl (wpAny_bind ?_)
    show wpAny _ _ (call (.builtin "str.join") [_, .ref l]) _ _ _
    refine join_listC (ys := [S]) ⟨_, ho', rfl, _, rfl⟩ (.cons S _ .nil) (by simp [PySem.Str.length]) (by simp; omega) fun t' k => ?_
    refine KFB.if_not rfl (wpAny_pure ?_)
    exact h _ _ _ hs
  · rw [if_neg (show ¬ Int.toNat 0 < S.cps.size from hz)]
    have hS0 : S = ⟨#[]⟩ := by cases S with | mk a => simp at hz; rw [hz]
    refine wpAny_bind ?_
    show wpAny _ _ (mkStr ⟨S.cps.extract 0 0⟩) _ _ _
    refine wpAny_mkStr ?_ (by rw [sizeLine_eq]; simp [PySem.Str.length])
    refine wpAny_bind (wpAny_seqItems hl rfl ?_)
    refine KFB.if_so rfl (wpAny_bind (wpAny_pure ?_))
    refine KFB.if_not rfl (wpAny_pure ?_)
    have hx : (⟨S.cps.extract 0 0⟩ : PySem.Str) = S := by rw [hS0]; rfl
    have := h s.heap (s.toks + 1) s.toks (Heap.SameBut.refl _ _)
    rw [hx]
    exact this
theorem sub_miss {v0 : Value} {a b c : Tok} {n : Nat} {of : Obj} {Q : Value → Shared → Prop} (hA : A.handled = none) (hre : s.heap.get? re = some { cls := .type "re.Pattern", data := .fields #[v0, .int 32 a, .int 1 b, .none, .none, .ref cd, .int 0 c] })
    (hcd : s.heap.get? cd = some { cls := .type "tuple", data := .seq reItems n }) (hf : s.heap.get? f = some of) (hfc : of.cls = .type "function") (hS : Miss S) (hsz : S.length ≤ 1000)
    (h : ∀ h' tk t', (∀ b o, s.heap.get? b = some o → h'.get? b = some o) → Q (.str S t') { s with heap := h', toks := tk }) :
    wpAny (model prog w) A (call (.builtin "re.Pattern.sub") [.ref re, .ref f, .str S t]) Q E s := by
  refine wpAny_call (codeAny_call_builtin slot_resub.plain entry_resub (slot_resub.check _ _ _ _ _ _ _ _ ⟨_, hre, rfl⟩ (args_resub _ _ _) ?_))
  refine run_resub hre hcd hf hfc ⟨Code.quiet_builtin _ (by decide +kernel), codeAny_builtin entry_reloop ?_⟩
  have up : ∀ b o, s.heap.get? b = some o → (s.heap.push { cls := .type "list", data := .seq #[] }).get? b = some o := fun b o e => Heap.get?_push_of_some _ e
  refine run_reloop (by exact hA) (up _ _ hre) (up _ _ hcd) (Heap.get?_push_size _ rfl) hS hsz fun h' tk t' hs => ?_
  exact h h' tk t' fun b o e => hs.extBut b o (Nat.ne_of_lt (Heap.lt_size e)) (up _ _ e)
theorem getm_resub {pl : Sem Bool} {Q : Value × List Value → Shared → Prop} {dt : Data} {sl : Array (Option Value)} (hre : s.heap.get? re = some { cls := .type "re.Pattern", data := dt, slots := sl }) (h : Q (.builtin "re.Pattern.sub", [.ref re]) s) :
    wpAny M A (getMethod (.ref re) "sub" pl) Q E s :=
  getMethod_builtin ⟨_, hre, rfl⟩ plain_re slot_resub type_resub (fun a e => by cases e; exact ⟨_, hre, rfl⟩) h
end

end
-- B15
section
theorem fillB15 : PySem.Challenge.rw_ij0118_01 = PySem.Challenge.rw_ij0118_01 ∧ hd.heap_1 = hd.heap_1 := by
  k_fill
  exact ⟨rfl, rfl⟩
noncomputable abbrev reOb : Obj := { cls := .type "re.Pattern", data := .fields #[.str (Str.ofString "([&~|])") 367, .int 32 402, .int 1 0, .none, .none, .ref 77, .int 0 0] }
theorem re_look (P : Params) : (hd.heap_1 P).lookup 78 = some reOb := by rfl
theorem cd_look (P : Params) : (hd.heap_1 P).lookup 77 = some { cls := .type "tuple", data := .seq reItems } := by rfl
section
variable {prog : Program} {w : World} {A : Around} {E : Value → Shared → Prop} {s : Shared} {h₀ : Heap} {L f : Addr} {m : Str → Option Value} {news : List (Addr × Obj)} {S : Str} {t : Tok}
theorem getm_sub {pl : Sem Bool} {Q : Value × List Value → Shared → Prop} (F : Fr h₀ L s.heap m) (X : (hd.heap_1 w.params).In h₀) (h : Q (.builtin "re.Pattern.sub", [.ref 78]) s) :
    wpAny (model prog w) A (getMethod (.ref 78) "sub" pl) Q E s := getm_resub (F.keep _ _ (X _ _ (re_look _))) h
theorem sub_K {of : Obj} {Q : Value → Shared → Prop} (hA : A.handled = none) (F : Fr h₀ L s.heap m) (N : News h₀ L s.heap news) (X : (hd.heap_1 w.params).In h₀) (hf : (f, of) ∈ news) (hfc : of.cls = .type "function") (hS : Miss S) (hsz : S.length ≤ 1000)
    (h : ∀ h' tk t', Fr h₀ L h' m → News h₀ L h' news → Q (.str S t') { s with heap := h', toks := tk }) :
    wpAny (model prog w) A (call (.builtin "re.Pattern.sub") [.ref 78, .ref f, .str S t]) Q E s :=
  sub_miss hA (F.keep _ _ (X _ _ (re_look _))) (F.keep _ _ (X _ _ (cd_look _))) (N _ hf).1 hfc hS hsz fun h' tk t' kp => h h' tk t' (F.keeps kp) (N.grown kp)
end

noncomputable def missB (S : Str) : Bool := match ((Sre.forSearch reCode S.cps 1 0 S.cps.size false).runFor 4).outcome with
  | some .failed => true
  | _ => false
theorem miss_of {S : Str} (h : missB S = true) : Miss S := by
  unfold missB at h
  unfold Miss
  split at h
  · assumption
  · cases h
theorem miss_ab : Miss (Str.ofString "ab") := miss_of (by decide +kernel)
theorem miss_nil : Miss (Str.ofString "") := miss_of (by decide +kernel)
theorem miss_x : Miss (Str.ofString "!\\-b") := miss_of (by decide +kernel)

end
-- B16
section
section
variable {prog : Program} {w : World} {A : Around} {E : Value → Shared → Prop} {s : Shared} {h₀ : Heap} {L a Kb : Addr} {m : Str → Option Value} {news : List (Addr × Obj)} {ss : List Str} {sep : Str} {t : Tok} {f : Str → Str}
theorem join_gen_K {Q : Value → Shared → Prop} (F : Fr h₀ L s.heap m) (N : News h₀ L s.heap news) (G : AllBare s.gens) (X : GenOnD prog w A Kb a ss (fun _ => true) (fun k => .str (f k)) s) (hLK : @LE.le Nat _ L Kb) (hle : ∀ q ∈ news, @LE.le Nat _ q.1 Kb)
    (hok : JoinOk sep (ss.map f) = true) (hsz : ss.length ≤ 1000)
    (h : ∀ s' t', Fr h₀ L s'.heap m → News h₀ L s'.heap news → AllBare s'.gens → s'.os = s.os → Q (.str (Txt.join sep (ss.map f)) t') s') :
    wpAny (model prog w) A (call (.builtin "str.join") [.str sep t, .ref a]) Q E s := by
  have e : ss.filter (fun _ => true) = ss := by simp
  refine join_genD F G X hLK (by rw [e]; exact hok) (fun s' t' F' G' hos hk => ?_) (by rw [sizeLine_eq]; omega)
  rw [e]
  exact h s' t' F' (fun q hq => ⟨hk _ _ (hle q hq) (N q hq).1, (N q hq).2⟩) G' hos
end
/-- what the generator makes of a chunk -/
noncomputable def escP (x : Str) : Str := Txt.replace x (Str.ofString "-") (Str.ofString "\\-")


end
-- B17
section
noncomputable def fnOfK (K : Frag) (a : Addr) : List Stmt × Scope := match K.lookup a with
  | some ⟨_, _, .func fd, _⟩ => (match fd.body with | .stmts b => b | _ => [], fd.scope)
  | _ => ([], default)
noncomputable def elseOf : Stmt → List Stmt
  | .If _ _ e _ => e
  | _ => []
noncomputable def thenOf : Stmt → List Stmt
  | .If _ b _ _ => b
  | .While _ b _ _ => b
  | _ => []
noncomputable def nth (l : List Stmt) (i : Nat) : Stmt := match l.drop i with
  | x :: _ => x
  | [] => .Pass default
noncomputable def trFn (P : Params) : List Stmt × Scope := fnOfK (hd.heap_1 P) 104
noncomputable abbrev trEnv (P : Params) (Lf : Addr) : Env := envOf (Str.ofString "_translate") (trFn P).2 Lf 104 (.ref 103)
/-- the turn of the great while -/
noncomputable def trTurn (P : Params) : List Stmt := thenOf (nth (trFn P).1 3)
noncomputable def trStar (P : Params) : List Stmt := elseOf (nth (trTurn P) 2)
noncomputable def trQm (P : Params) : List Stmt := elseOf (nth (trStar P) 0)
/-- the bracket's branch, and what stands where the bracket is closed -/
noncomputable def trBr (P : Params) : List Stmt := thenOf (nth (trQm P) 0)
noncomputable def trIn (P : Params) : List Stmt := elseOf (nth (trBr P) 4)
noncomputable def trTail (P : Params) : List Stmt := (trIn P).drop 2
noncomputable def trDash (P : Params) : List Stmt := elseOf (nth (trIn P) 1)
noncomputable def trJoin (P : Params) : List Stmt := (trDash P).drop 6
example (P : Params) : (trTail P).length = 3 ∧ (trDash P).length = 7 := ⟨rfl, rfl⟩

end
-- B18
section
open PySem PySem.W PyProof.Rows PySem.Calls PySem.Spec PySem.Builtin
theorem key_lookup : isSubtype (.type "KeyError") (.type "LookupError") = pure true := by rw [isSubtype_type]; kernel_rfl
section
variable {prog : Program} {w : World} {A : Around} {E : Value → Shared → Prop} {s : Shared} {d : Addr} {f : Int → Option Value} {c : Nat} {t : Tok}
theorem look_miss {Q : Builtin.Str.Mapped → Shared → Prop} (hh : A.handled = none) (hd : (d == sysModules) = false) (hm : s.heap.MapOf (intKind prog w) d f) (hf : f c = none)
    (h : ∀ h' tk, (∀ b o, s.heap.get? b = some o → h'.get? b = some o) → Q .keep { s with heap := h', toks := tk }) :
    wpAny (model prog w) A (Builtin.Str.tableLookup (.ref d) c) Q E s := by
  unfold Builtin.Str.tableLookup
  refine wpAny_bind (wpAny_attempt ?_)
  refine wpAny_bind (wpAny_mkInt ?_)
  refine wpAny_getItem_missing_of (k := (c : Int)) (intKind_is prog w _ _) hd hh (by exact hm) hf ?_
  intro h' e hn
  obtain ⟨ob, t, he, hc, hdd⟩ := hn.there
  dsimp only
  refine wpAny_bind (wpAny_isInstance (T := "KeyError") ⟨ob, he, hc⟩ key_lookup ?_)
  refine KFB.if_so rfl ?_
  refine wpAny_bind (wpAny_rule (wpAny_pure ?_))
  exact h _ _ hn.keeps
theorem look_hit {Q : Builtin.Str.Mapped → Shared → Prop} {x : PySem.Str} {u : Tok} (hm : s.heap.MapOf (intKind prog w) d f) (hf : f c = some (.str x u))
    (h : ∀ tk, Q (.text x) { s with toks := tk }) :
    wpAny (model prog w) A (Builtin.Str.tableLookup (.ref d) c) Q E s := by
  unfold Builtin.Str.tableLookup
  refine wpAny_bind (wpAny_attempt ?_)
  refine wpAny_bind (wpAny_mkInt ?_)
  refine wpAny_getItem_of (k := (c : Int)) (intKind_is prog w _ _) (by exact hm) hf ?_
  dsimp only
  refine wpAny_bind (wpAny_of_eq (a := (none : Option Int)) rfl ?_)
  refine wpAny_bind (wpAny_of_eq (a := some x) rfl ?_)
  exact wpAny_pure (h _)
theorem forIn_one {α β : Type} (c : α) (i : β) (f : α → β → Sem (ForInStep β)) : forIn #[c] i f = (f c i >>= fun r => match r with | .done b => pure b | .yield b => pure b) := by
  rw [← Array.forIn_toList]
  show forIn [c] i f = _
  rw [List.forIn_cons]
  congr 1
theorem run_miss1 {P : Fin → Shared → Prop} (hh : A.handled = none) (hd : (d == sysModules) = false) (hm : s.heap.MapOf (intKind prog w) d f) (hf : f (99 : Nat) = none)
    (h : ∀ h' tk t', (∀ b o, s.heap.get? b = some o → h'.get? b = some o) → P (.done (.ret (.str ⟨#[99]⟩ t'))) { s with heap := h', toks := tk }) :
    wpAny (model prog w) A (Builtin.«str.translate» ⟨[.str ⟨#[99]⟩ t, .ref d], []⟩) P E s := by
  unfold Builtin.«str.translate»
  refine wpAny_bind (wpAny_of_eq (a := (Value.str ⟨#[99]⟩ t, (⟨#[99]⟩ : PySem.Str), Value.ref d)) (by first | rfl | kernel_rfl) ?_)
  dsimp only
  refine KFB.if_not rfl ?_
  refine wpAny_bind ?_
  rw [forIn_one]
  refine wpAny_bind ?_
  refine KFB.if_not (by decide) (KFB.if_so (by decide +kernel) ?_)
  dsimp only [List.lookup]
  refine wpAny_bind (look_miss hh hd hm hf fun h' tk kp => ?_)
  dsimp only
  refine wpAny_bind (wpAny_pure ?_)
  dsimp only
  refine wpAny_pure (wpAny_pure ?_)
  dsimp only
  refine KFB.if_not (by decide) ?_
  refine wpAny_bind (wpAny_mkStr ?_ (by rw [sizeLine_eq]; decide))
  exact wpAny_pure (h _ _ _ kp)
theorem run_hit1 {P : Fin → Shared → Prop} {x : PySem.Str} {u : Tok} (hx : (x.length == 1) = false) (hx2 : x.length ≤ 100) (hm : s.heap.MapOf (intKind prog w) d f) (hf : f (45 : Nat) = some (.str x u))
    (h : ∀ tk t', P (.done (.ret (.str x t'))) { s with toks := tk }) :
    wpAny (model prog w) A (Builtin.«str.translate» ⟨[.str ⟨#[45]⟩ t, .ref d], []⟩) P E s := by
  unfold Builtin.«str.translate»
  refine wpAny_bind (wpAny_of_eq (a := (Value.str ⟨#[45]⟩ t, (⟨#[45]⟩ : PySem.Str), Value.ref d)) (by first | rfl | kernel_rfl) ?_)
  dsimp only
  refine KFB.if_not rfl ?_
  refine wpAny_bind ?_
  rw [forIn_one]
  refine wpAny_bind ?_
  refine KFB.if_not (by decide) (KFB.if_so (by decide +kernel) ?_)
  dsimp only [List.lookup]
  refine wpAny_bind (look_hit hm hf fun tk => ?_)
  dsimp only
  simp only [hx, Bool.false_and, Bool.false_eq_true, if_false]
  refine wpAny_bind (wpAny_pure ?_)
  dsimp only
  refine wpAny_bind (wpAny_rule ?_)
  refine wpAny_bind (look_hit (by exact hm) hf fun tk => ?_)
  dsimp only
  refine wpAny_pure (wpAny_pure ?_)
  dsimp only
  refine KFB.if_not (by unfold Builtin.Str.tooLong; simp; rw [sizeLine_eq]; omega) ?_
  have e : (⟨List.foldl (fun acc p => acc ++ p.cps) #[] [x].reverse⟩ : PySem.Str) = x := by cases x; simp
  rw [e]
  refine wpAny_bind (wpAny_mkStr ?_ (by rw [sizeLine_eq]; omega))
  exact wpAny_pure (h _ _)
theorem transl_miss {Q : Value → Shared → Prop} (hh : A.handled = none) (hd : (d == sysModules) = false) (hm : s.heap.MapOf (intKind prog w) d f) (hf : f (99 : Nat) = none)
    (h : ∀ h' tk t', (∀ b o, s.heap.get? b = some o → h'.get? b = some o) → Q (.str ⟨#[99]⟩ t') { s with heap := h', toks := tk }) :
    wpAny (model prog w) A (call (.builtin "str.translate") [.str ⟨#[99]⟩ t, .ref d]) Q E s :=
  wpAny_call (codeAny_call_builtin PySem.F.slot_str_translate.plain PySem.F.entry_str_translate (PySem.F.slot_str_translate.check _ _ _ _ _ _ _ _ (by rfl) (PySem.F.args_str_translate_2 _ _) (run_miss1 (by exact hh) hd hm hf fun h' tk t' kp => h h' tk t' kp)))
theorem transl_hit {Q : Value → Shared → Prop} {x : PySem.Str} {u : Tok} (hx : (x.length == 1) = false) (hx2 : x.length ≤ 100) (hm : s.heap.MapOf (intKind prog w) d f) (hf : f (45 : Nat) = some (.str x u))
    (h : ∀ tk t', Q (.str x t') { s with toks := tk }) :
    wpAny (model prog w) A (call (.builtin "str.translate") [.str ⟨#[45]⟩ t, .ref d]) Q E s :=
  wpAny_call (codeAny_call_builtin PySem.F.slot_str_translate.plain PySem.F.entry_str_translate (PySem.F.slot_str_translate.check _ _ _ _ _ _ _ _ (by rfl) (PySem.F.args_str_translate_2 _ _) (run_hit1 hx hx2 hm hf fun tk t' => h tk t')))
end

end
-- B20
section
section
variable {prog : Program} {w : World} {A : Around} {E : Value → Shared → Prop} {s : Shared} {h₀ : Heap} {L l : Addr} {m : Str → Option Value} {news : List (Addr × Obj)} {vs : List Value} {e : Nat}
theorem led_list {h : Heap} (N : News h₀ L h news) (hm : (l, listOf vs.toArray e) ∈ news) : h.IsList l vs.toArray := ⟨_, (N _ hm).1, rfl, e, rfl⟩
theorem len_led {Q : Value → Shared → Prop} (N : News h₀ L s.heap news) (hm : (l, listOf vs.toArray e) ∈ news) (hb : vs.length ≤ 1000) (h : Q (.int (vs.length : Nat) (s.toks + 1)) { s with toks := s.toks + 1 + 1 }) :
    wpAny (model prog w) A (call (.builtin "len") [.ref l]) Q E s := by
  refine len_list (led_list N hm) (by rw [List.size_toArray]; omega) ?_
  rw [List.size_toArray]; exact h
theorem item_led {value slice : PySem.Expr} {k : Nat} {u : Tok} {v : Value} {Q : Value → Shared → Prop} (N : News h₀ L s.heap news) (hm : (l, listOf vs.toArray e) ∈ news) (hv : vs[k]? = some v) (hk : (k : Int) < 1000) (h : Q v s)
    (hs : subscripted slice false (.ref l) (.int (k : Nat) u) = operate [.ref l, .int (k : Nat) u] (getItem (.ref l) (.int (k : Nat) u)) := by with_unfolding_all rfl) (hg : ∀ r, letTemporaryGo value (.ref l) r = pure () := by intro _; with_unfolding_all rfl) :
    wpAny (model prog w) A (subscriptTail value slice (.ref l) (.int (k : Nat) u)) Q E s :=
  item_list (led_list N hm) (by omega) (by omega) (by simpa using hv) h hs hg
theorem join_cat (l : List Str) : Txt.join (Str.ofString "") l = catS l := by
  show Builtin.Str.glued (Str.ofString "") l = catS l
  rw [StrLaws.glued_eq_join]
  have he : (Str.ofString "").cps = #[] := by decide
  induction l with
  | nil => rfl
  | cons x r ih =>
    cases r with
    | nil =>
      show x = x ++ ⟨#[]⟩
      apply Str.ext'
      rw [Str.cps_append]; simp
    | cons y r =>
      show x ++ Str.ofString "" ++ Str.join (Str.ofString "") (y :: r) = x ++ catS (y :: r)
      rw [ih]
      apply Str.ext'
      simp only [Str.cps_append, he, Array.append_empty]
theorem catS_len : ∀ l : List Str, (catS l).length = (l.map (·.length)).sum
  | [] => by simp [catS, Str.length]
  | x :: r => by show (x ++ catS r).length = _; rw [len_app, catS_len r, List.map_cons, List.sum_cons]
theorem join_led {ps : List Str} {t : Tok} {Q : Value → Shared → Prop} (N : News h₀ L s.heap news) (hm : (l, listOf vs.toArray e) ∈ news) (hs : StrsAre vs ps) (hz : (catS ps).length ≤ 1000) (hb : vs.length ≤ 1000)
    (h : ∀ t' k, Q (.str (catS ps) t') { s with toks := k }) : wpAny (model prog w) A (call (.builtin "str.join") [.str (Str.ofString "") t, .ref l]) Q E s := by
  have hl := hs.len_eq
  refine join_listC (ys := ps) (led_list N hm) (by simpa using hs) (by decide) (by rw [← catS_len]; omega) fun t' k => ?_
  rw [join_cat]; exact h t' k
end
section
variable {M : Model} {A : Around} {E : Value → Shared → Prop} {s : Shared} {h₀ : Heap} {L a : Addr} {m : Str → Option Value} {cn x : Str} {cs : Scope} {ccd v : Value} {cl : List (Str × Addr)}
theorem loadN {Q : Value → Shared → Prop} (F : Fr h₀ L s.heap m) (hv : m x = some v) (h : Q v s)
    (hk : cs.kind = .function := by rfl) (hx : (envX cn cs L a ccd cl).kindOf x = some .local := by rfl) : wpAny M A (loadName (envX cn cs L a ccd cl) x) Q E s := wpAny_loadName_local hk hx F.ns hv h
end
theorem strsAt {vs : List Value} {ps : List Str} (h : StrsAre vs ps) : ∀ {k : Nat}, k < vs.length → ∃ p t, vs[k]? = some (.str p t) := by
  induction h with
  | nil => intro k h; exact absurd h (Nat.not_lt_zero _)
  | cons y t _ ih =>
    intro k h
    cases k with
    | zero => exact ⟨y, t, rfl⟩
    | succ k => exact ih (Nat.lt_of_succ_lt_succ h)

end
-- B21
section
open PySem PySem.W PyProof.Rows PySem.Calls PySem.Spec PySem.Builtin
theorem ob_can : ((Manifest.find? "object").bind fun x => List.findSome? (fun t => (Manifest.find? t).bind fun b =>
    if b.noNew = true then some true else if (b.attrs.any fun x => x.fst == "__new__") = true then some false else none) x.mro).getD false = false := by decide +kernel
theorem ob_chk (as : Args) : checkTypeCall "object" as = pure () := by first | rfl | kernel_rfl
theorem ob_mro : mroOf (.type "object") = pure [.type "object"] := PySem.F.mro_object
theorem ob_made : Bind.madeBy (.type "object") = pure (some "object.__new__") := by first | rfl | kernel_rfl
theorem ob_newOk : checkBuiltinCall "object.__new__" ⟨[.type "object"], []⟩ = pure () := by first | rfl | kernel_rfl
theorem ob_sub : isSubtype (.type "object") (.type "object") = pure true := PySem.F.sub_object_object
theorem ob_refuse : (Option.elim (Manifest.find? "object") false fun x => x.mro.any fun t => Option.elim (Manifest.find? t) false fun x => x.noNew) = false := by decide +kernel
theorem ob_here : Bind.madeHere "object.__new__" (.type "object") = pure () := by first | rfl | kernel_rfl
theorem ob_dict : typeHasDict (.type "object") = false := by decide +kernel
theorem ob_dies : diesByItsTypesDel "object" = false := by decide +kernel
theorem ob_init : Slot "object" "__init__" "object.__init__" := PySem.F.slot_object_init
theorem ob_initEntry : entryFor table "object.__init__" = some Builtin.«object.__init__» := PySem.F.entry_object_init
theorem ob_initArgs (a : Value) : argsOk "object.__init__" ⟨[a], []⟩ := PySem.F.args_object_init_1 a
noncomputable abbrev plainO : Obj := { cls := .type "object", data := .plain }
section
variable {prog : Program} {w : World} {A : Around} {E : Value → Shared → Prop} {s : Shared}
theorem run_obnew {P : Fin → Shared → Prop} (h : P (.done (.ret (.ref s.heap.objs.size))) { s with heap := s.heap.push plainO }) :
    wpAny (model prog w) A (Builtin.«object.__new__» ⟨[.type "object"], []⟩) P E s := by
  unfold Builtin.«object.__new__»
  refine wpAny_bind (wpAny_of_eq (a := true) (by first | rfl | kernel_rfl) ?_)
  refine KFB.if_not rfl ?_
  refine KFB.if_not ob_refuse ?_
  refine wpAny_bind (wpAny_of_eq ob_here ?_)
  refine KFB.if_not rfl ?_
  refine wpAny_bind ?_
  refine wpAny_pure ?_
  refine wpAny_bind (wpAny_newObj_type ?_)
  refine KFB.if_not ob_dies (wpAny_pure ?_)
  exact h
theorem run_obcall {P : Fin → Shared → Prop} (h : P (.done (.ret (.ref s.heap.objs.size))) { s with heap := s.heap.push plainO }) :
    wpAny (model prog w) A (Builtin.«type.__call__» ⟨[.type "object"], []⟩) P E s := by
  unfold Builtin.«type.__call__»
  refine KFB.if_not rfl ?_
  dsimp only
  refine KFB.if_not ob_can ?_
  refine wpAny_bind (wpAny_of_eq (ob_chk _) ?_)
  refine wpAny_bind (wpAny_of_eq ob_mro ?_)
  refine KFB.if_not rfl ?_
  refine wpAny_bind (wpAny_of_eq ob_made ?_)
  dsimp only
  refine wpAny_bind (wpAny_pure ?_)
  refine wpAny_bind (wpAny_holding (wpAny_call ?_))
  refine codeAny_call_builtin_code (Code.quiet_builtin _ (by decide +kernel)) (wpAny_of_eq ob_newOk ?_)
  refine codeAny_builtin PySem.F.entry_object_new (run_obnew ?_)
  have hT : (⟨s.heap.push plainO, s.gens, s.drawn, s.toks, s.os⟩ : Shared).TypeIs (.ref s.heap.objs.size) "object" := ⟨plainO, Heap.get?_push_size _ rfl, rfl⟩
  refine wpAny_bind (wpAny_isInstance hT ob_sub ?_)
  refine KFB.if_not rfl ?_
  refine wpAny_bind (wpAny_holding (wpAny_callSpecial?_slot hT ob_init (wpAny_call_entry ob_init hT ob_initEntry ?_ (ob_initArgs _))))
  unfold Builtin.«object.__init__»
  refine KFB.if_not rfl (wpAny_pure ?_)
  refine ⟨_, rfl, ?_⟩
  dsimp only
  exact KFB.if_not rfl (wpAny_pure h)
theorem call_obj {h₀ : Heap} {L : Addr} {m : PySem.Str → Option Value} {news : List (Addr × Obj)} {Q : Value → Shared → Prop} (F : Fr h₀ L s.heap m) (N : News h₀ L s.heap news)
    (h : ∀ a h', Fr h₀ L h' m → News h₀ L h' ((a, plainO) :: news) → (∀ p ∈ news, p.1 < a) → Q (.ref a) { s with heap := h' }) :
    wpAny (model prog w) A (call (.type "object") []) Q E s := by
  refine wpAny_call (codeAny_of_tree ?_)
  show wpAny _ _ (again (.builtin "type.__call__" ⟨[.type "object"], []⟩)) _ _ _
  exact wpAny_pure ⟨Code.quiet_builtin _ (by decide +kernel), codeAny_builtin entry_typeCall (run_obcall (h _ _ (F.push _) (News.push F N _) fun p hp => Heap.lt_size (N p hp).1))⟩
end

end
-- B22
section
open PySem PySem.W PyProof.Rows PySem.Calls PySem.Spec PyProof.Rows.LCg
/-- the signs of a text at the places that p takes, among the first i -/
noncomputable def pickS (S : Str) (p : Nat → Bool) (i : Nat) : List Str := ((List.range i).filter p).map fun j => ⟨#[(S.cps[j]?).getD 0]⟩
theorem pickS_succ (S : Str) (p : Nat → Bool) (i : Nat) : pickS S p (i + 1) = pickS S p i ++ (if p i then [⟨#[(S.cps[i]?).getD 0]⟩] else []) := by
  unfold pickS
  rw [List.range_succ, List.filter_append, List.map_append]
  congr 1
  cases hp : p i <;> simp [List.filter, hp]
theorem newEnv_cell {M : Model} {A : Around} {E : Value → Shared → Prop} {s : Shared} {scope : Scope} {globals builtins : Addr} {cl : List (Str × Addr)} {qual n0 x : Str} {o : Env} {fr : List (Str × NameKind)} {Q : Env → Shared → Prop}
    (hsc : scope.names = (n0, .local) :: (x, .cell) :: fr) (hfr : ∀ y ∈ fr, y.2 ≠ .cell)
    (hQ : Q { scope := scope, locals := s.heap.objs.size, globals := globals, cells := (x, s.heap.objs.size + 1) :: cl, qual := qual, func := none, code := o.code, frame := o.frame, builtins := o.builtins }
      { s with heap := (s.heap.push { cls := .type "dict", data := .dict #[] }).push { cls := .type "cell", data := .cell none } }) :
    wpAny M A (newFunctionEnv scope globals cl [] qual none .none (some o) builtins) Q E s := by
  simp only [newFunctionEnv, Option.isSome_some, if_true]
  refine wpAny_bind (wpAny_alloc ?_)
  rw [hsc, List.forIn_cons]
  refine wpAny_bind (wpAny_bind ?_)
  refine wpAny_pure ?_
  dsimp only
  rw [List.forIn_cons]
  refine wpAny_bind ?_
  refine wpAny_bind (wpAny_alloc (wpAny_pure ?_))
  dsimp only
  rw [forIn_yield_id _ (fun x hx c => by
      obtain ⟨name, kind⟩ := x
      have : (kind == NameKind.cell) = false := by simpa using hfr _ hx
      simp only [this, Bool.false_eq_true, if_false])]
  refine wpAny_pure ?_
  rw [List.forIn_nil]
  refine wpAny_bind (wpAny_pure (wpAny_pure ?_))
  rw [Heap.size_push]
  exact hQ
inductive InvC1 (s : Shared) (S : Str) (p : Nat → Bool) (t : Tok) (J : Addr) (h₀ : Heap) (L : Addr) (m : Str → Option Value) (news : List (Addr × Obj)) (k : Nat) (s' : Shared) : Prop
  | mk : ∀ (h : Heap) (tk i : Nat) (ys : List Value) (oc : Obj) (v0 : Option Value), (s' = { s with heap := h, toks := tk }) → (i ≤ S.cps.size) → (k = S.cps.size + 1 - i) → (h.IsStrIter J "str_ascii_iterator" S t i) → (Fr h₀ L h m) → (News h₀ L h ((J + 3, oc) :: (J + 2, { cls := .type "dict", data := .dict #[] }) :: (J + 1, lst ys) :: news)) → (oc.data = .cell v0) → (StrsAre ys (pickS S p i)) → InvC1 s S p t J h₀ L m news k s'
section
variable {prog : Program} {w : World} {A : Around} {E : Value → Shared → Prop} {s : Shared} {env : Env} {scope : Scope} {pos px : Pos} {x n0 : Str} {cl : List (Str × Addr)} {fr : List (Str × NameKind)} {h₀ : Heap} {L : Addr} {m : Str → Option Value} {news : List (Addr × Obj)} {ct elt i1 : PySem.Expr} {S : Str}
theorem comp1c_K {Q : Value → Shared → Prop} (p : Nat → Bool) (F : Fr h₀ L s.heap m) (N : News h₀ L s.heap news) (hh : A.handled = none)
    (hclos : closureFor scope env = pure cl) (hkind : scope.kind = .function) (hnames : ∀ y ∈ scope.names, y.2 = .local → scope.names.lookup y.1 = some .local)
    (hsc : scope.names = (n0, .local) :: (x, .cell) :: fr) (hfr : ∀ y ∈ fr, y.2 ≠ .cell) (hkx : ∀ c C, (compEnvC scope ((x, c) :: cl) C env).kindOf x = some .cell) (hS : S.cps.size ≤ 1000) (ha : S.cps.all (· < 128) = true)
    (e1 : wpAny (model prog w) A (eval i1 env) (fun xv s₁ => (∃ t, xv = .str S t) ∧ ∃ tk, s₁ = { s with toks := tk }) E s)
    (htest : ∀ (C c : Addr) (oc : Obj) (Lg : List (Addr × Obj)) (h : Heap) (tk j : Nat) (v : Value) (E' : Value → Shared → Prop), SignAt S j v → oc.data = .cell (some v) → Fr h₀ L h m → News h₀ L h ((c, oc) :: Lg) → (∀ p ∈ news, p ∈ Lg) →
      wpAny (model prog w) A (isTrue ct (compEnvC scope ((x, c) :: cl) C env) (eval ct (compEnvC scope ((x, c) :: cl) C env))) (fun ok s' => ok = p j ∧ ∃ h' tk', s' = { s with heap := h', toks := tk' } ∧ Fr h₀ L h' m ∧ News h₀ L h' ((c, oc) :: Lg)) E' { s with heap := h, toks := tk })
    (helt : ∀ (C c : Addr) (oc : Obj) (s' : Shared) (v : Value) (E' : Value → Shared → Prop), oc.data = .cell (some v) → News h₀ L s'.heap [(c, oc)] →
      wpAny (model prog w) A (eval elt (compEnvC scope ((x, c) :: cl) C env)) (fun y s'' => y = v ∧ s'' = s') E' s')
    (hQ : ∀ D h tk ys, Fr h₀ L h m → News h₀ L h ((D, lst ys) :: news) → (∀ p ∈ news, p.1 < D) → StrsAre ys (pickS S p S.cps.size) → Q (.ref D) { s with heap := h, toks := tk })
    (hs : ∀ x, foldedSetIterable i1 env x = pure x := by intro _; rfl) :
    wpAny (model prog w) A (eval (.ListComp elt [⟨.Name x px, i1, [ct], 0⟩] scope pos) env) Q E s := by
  rw [eval_ListComp]
  refine wpAny_comprehension_free (use := none) rfl hs hclos hkind hnames (wpAny_mono e1 (fun xv s₁ h₁ => ?_) fun _ _ e => e)
  obtain ⟨⟨t, rfl⟩, tk1, rfl⟩ := h₁
  refine wpAny_pyIter_ascii ha ?_
  dsimp only
  have W := Walks.strAscii (prog := prog) (w := w) hh s.heap.objs.size S t
  generalize hoJ : ({ cls := .type "str_ascii_iterator", data := .fields #[.str S t, .int 0 0] } : Obj) = oJ
  generalize hJe : s.heap.objs.size = J at *
  have hltJ : ∀ p ∈ news, @LT.lt Nat _ p.1 J := fun p hp => hJe ▸ Heap.lt_size (N p hp).1
  have hLJ : @LT.lt Nat _ L J := hJe ▸ F.ns.lt
  have fresh₀ : ∀ a, @LE.le Nat _ J a → h₀.get? a = none := fun a ha => by
    cases e : h₀.get? a with
    | none => rfl
    | some o' => exact absurd (Heap.lt_size (F.keep a o' e)) (by rw [hJe]; exact Nat.not_lt.mpr ha)
  refine wpAny_newObj_type (newEnv_cell hsc hfr ?_)
  dsimp only
  generalize hH4 : ((((s.heap.push oJ).push { cls := .type "list", dict := none, data := .seq ([] : List Value).toArray }).push { cls := .type "dict", data := .dict #[] }).push { cls := .type "cell", data := .cell none }) = H4
  have z1 : (s.heap.push oJ).objs.size = J + 1 := by rw [Heap.size_push, hJe]
  have z2 : ((s.heap.push oJ).push { cls := .type "list", dict := none, data := .seq ([] : List Value).toArray }).objs.size = J + 2 := by rw [Heap.size_push, z1]
  have z3 : (((s.heap.push oJ).push { cls := .type "list", dict := none, data := .seq ([] : List Value).toArray }).push { cls := .type "dict", data := .dict #[] }).objs.size = J + 3 := by rw [Heap.size_push, z2]
  have gJ : H4.get? J = some oJ := by rw [← hH4]; exact Heap.get?_push_of_some _ (Heap.get?_push_of_some _ (Heap.get?_push_of_some _ (hJe ▸ Heap.get?_push_size _ (by rw [← hoJ]; rfl))))
  have gD : H4.get? (J + 1) = some (lst []) := by rw [← hH4]; exact Heap.get?_push_of_some _ (Heap.get?_push_of_some _ (z1 ▸ Heap.get?_push_size _ rfl))
  have gC : H4.get? (J + 2) = some { cls := .type "dict", data := .dict #[] } := by rw [← hH4]; exact Heap.get?_push_of_some _ (z2 ▸ Heap.get?_push_size _ rfl)
  have gc : H4.get? (J + 3) = some { cls := .type "cell", data := .cell none } := by rw [← hH4]; exact (z3 ▸ Heap.get?_push_size _ rfl)
  have old : ∀ b o, s.heap.get? b = some o → H4.get? b = some o := fun b o e => by rw [← hH4]; exact Heap.get?_push_of_some _ (Heap.get?_push_of_some _ (Heap.get?_push_of_some _ (Heap.get?_push_of_some _ e)))
  rw [z1, z2]
  have hJL : L ≠ J := Nat.ne_of_lt hLJ
  have hDL : J + 1 ≠ L := Nat.ne_of_gt (show @LT.lt Nat _ L (J + 1) by omega)
  have hCL : J + 2 ≠ L := Nat.ne_of_gt (show @LT.lt Nat _ L (J + 2) by omega)
  have hcL : J + 3 ≠ L := Nat.ne_of_gt (show @LT.lt Nat _ L (J + 3) by omega)
  have hJ₀ := fresh₀ J (Nat.le_refl _)
  have hD₀ := fresh₀ (J + 1) (show @LE.le Nat _ J (J + 1) by omega)
  have hC₀ := fresh₀ (J + 2) (show @LE.le Nat _ J (J + 2) by omega)
  have hc₀ := fresh₀ (J + 3) (show @LE.le Nat _ J (J + 3) by omega)
  have N4 : News h₀ L H4 ((J + 3, { cls := .type "cell", data := .cell none }) :: (J + 2, { cls := .type "dict", data := .dict #[] }) :: (J + 1, lst []) :: news) := fun p hp => by
    rcases List.mem_cons.mp hp with rfl | hp
    · exact ⟨gc, hcL, hc₀⟩
    rcases List.mem_cons.mp hp with rfl | hp
    · exact ⟨gC, hCL, hC₀⟩
    rcases List.mem_cons.mp hp with rfl | hp
    · exact ⟨gD, hDL, hD₀⟩
    · exact ⟨old _ _ (N p hp).1, (N p hp).2⟩
  have loop : codeAny (model prog w) A (.compLoop (.ListComp elt [⟨.Name x px, i1, [ct], 0⟩] scope pos) 0 (.ref J) (.ref (J + 1)) (compEnvC scope ((x, J + 3) :: cl) (J + 2) env))
      (compPost (model prog w) A E none Q (.ref (J + 1)) (J + 2)) { s with heap := H4, toks := tk1 } := by
    refine codeAny_compLoop_tests (InvC1 s S p t J h₀ L m news) ?_ (S.cps.size + 1)
      ⟨H4, _, 0, [], _, _, rfl, Nat.zero_le _, rfl, ⟨oJ, gJ, by rw [← hoJ], by rw [← hoJ]; rfl⟩, F.keeps old, N4, rfl, .nil⟩
    rintro k s' ⟨h, tk, i, ys, oc, v0, rfl, hi, rfl, hst, F', N', hoc, hys⟩
    by_cases hlt : i < S.cps.size
    · refine W.item i _ _ _ hlt hst fun v h₂ tk₂ hP hst₂ hk₂ => ?_
      have F₂ : Fr h₀ L h₂ m := fr_but F' hk₂ hJL hJ₀
      have N₂ := news_but N' hk₂ fun p hp => by
        rcases List.mem_cons.mp hp with rfl | hp
        · exact Nat.ne_of_gt (show @LT.lt Nat _ J (J + 3) by omega)
        rcases List.mem_cons.mp hp with rfl | hp
        · exact Nat.ne_of_gt (show @LT.lt Nat _ J (J + 2) by omega)
        rcases List.mem_cons.mp hp with rfl | hp
        · exact Nat.ne_of_gt (show @LT.lt Nat _ J (J + 1) by omega)
        · exact Nat.ne_of_lt (hltJ p hp)
      refine wpAny_assign_Name (wpAny_storeName_cell hkind (hkx _ _) (by simp [compEnvC]) ⟨oc, (N₂ _ (.head _)).1, hoc⟩ fun h₃ hc₃ hs₃ => ?_)
      obtain ⟨oc', hoc', hdc'⟩ := hc₃
      refine wpAny_tests_one ?_
      have F₃ : Fr h₀ L h₃ m := F₂.change hs₃ hcL hc₀
      have hst₃ : h₃.IsStrIter J "str_ascii_iterator" S t (i + 1) := hst₂.extBut hs₃.extBut (Nat.ne_of_lt (show @LT.lt Nat _ J (J + 3) by omega))
      obtain ⟨oI, heI, hI1, hI2⟩ := hst₃
      have N₃ : News h₀ L h₃ ((J + 3, oc') :: (J, oI) :: (J + 2, { cls := .type "dict", data := .dict #[] }) :: (J + 1, lst ys) :: news) := fun p hp => by
        rcases List.mem_cons.mp hp with rfl | hp
        · exact ⟨hoc', hcL, hc₀⟩
        rcases List.mem_cons.mp hp with rfl | hp
        · exact ⟨heI, Ne.symm hJL, hJ₀⟩
        have hne : p.1 ≠ J + 3 := by
          rcases List.mem_cons.mp hp with rfl | hp
          · exact Nat.ne_of_lt (show @LT.lt Nat _ (J + 2) (J + 3) by omega)
          rcases List.mem_cons.mp hp with rfl | hp
          · exact Nat.ne_of_lt (show @LT.lt Nat _ (J + 1) (J + 3) by omega)
          · exact Nat.ne_of_lt (Nat.lt_trans (hltJ p hp) (show @LT.lt Nat _ J (J + 3) by omega))
        have z := N₂ p (.tail _ hp)
        exact ⟨hs₃.extBut _ _ hne z.1, z.2⟩
      refine wpAny_mono (htest (J + 2) (J + 3) oc' _ h₃ _ i v _ hP hdc' F₃ N₃ (fun p hp => .tail _ (.tail _ (.tail _ hp)))) (fun ok s₄ h₄ => ?_) fun _ _ e => e
      obtain ⟨rfl, h4, tk4, rfl, F₄, N₄⟩ := h₄
      have hst₄ : h4.IsStrIter J "str_ascii_iterator" S t (i + 1) := ⟨oI, (N₄ _ (.tail _ (.head _))).1, hI1, hI2⟩
      have N₅ : News h₀ L h4 ((J + 3, oc') :: (J + 2, { cls := .type "dict", data := .dict #[] }) :: (J + 1, lst ys) :: news) := fun p hp => by
        rcases List.mem_cons.mp hp with rfl | hp
        · exact N₄ _ (.head _)
        · exact N₄ _ (.tail _ (.tail _ hp))
      obtain ⟨ch, u, hch, rfl⟩ := hP
      have hyl : ys.length ≤ i := by
        rw [hys.len_eq]
        unfold pickS
        rw [List.length_map]
        exact Nat.le_trans (List.length_filter_le _ _) (by rw [List.length_range]; exact Nat.le_refl _)
      cases hp : p i with
      | true =>
        simp only [if_true]
        refine wpAny_mono (helt (J + 2) (J + 3) oc' _ _ _ hdc' (fun p hp => by rw [List.mem_singleton.mp hp]; exact N₅ _ (.head _))) (fun y s₅ h₅ => ?_) fun _ _ e => e
        obtain ⟨rfl, rfl⟩ := h₅
        refine append_at (hsz := by show ys.toArray.size ≤ sizeLine; rw [List.size_toArray, sizeLine_eq]; omega) (N₅ _ (.tail _ (.tail _ (.head _)))).1 fun h₅ hs₅ hD₅ => ?_
        refine ⟨S.cps.size + 1 - (i + 1), dec_lt (by assumption), h₅, tk4, i + 1, ys ++ [.str ⟨#[ch]⟩ u], oc', _, rfl, hlt, rfl, hst₄.extBut hs₅.extBut (Nat.ne_of_lt (show @LT.lt Nat _ J (J + 1) by omega)), F₄.change hs₅ hDL hD₀, fun p hp => ?_, hdc', ?_⟩
        · rcases List.mem_cons.mp hp with rfl | hp
          · exact ⟨hs₅.extBut _ _ (Nat.ne_of_gt (show @LT.lt Nat _ (J + 1) (J + 3) by omega)) (N₅ _ (.head _)).1, hcL, hc₀⟩
          rcases List.mem_cons.mp hp with rfl | hp
          · exact ⟨hs₅.extBut _ _ (Nat.ne_of_gt (show @LT.lt Nat _ (J + 1) (J + 2) by omega)) (N₅ _ (.tail _ (.head _))).1, hCL, hC₀⟩
          rcases List.mem_cons.mp hp with rfl | hp
          · exact ⟨hD₅.trans (congrArg some (lst_snoc ys _)), hDL, hD₀⟩
          · have z := N₅ p (.tail _ (.tail _ (.tail _ hp)))
            exact ⟨hs₅.extBut _ _ (Nat.ne_of_lt (Nat.lt_trans (hltJ p hp) (show @LT.lt Nat _ J (J + 1) by omega))) z.1, z.2⟩
        · rw [pickS_succ, hp, if_pos rfl, hch]
          exact hys.append' (.cons _ _ .nil)
      | false =>
        simp only [Bool.false_eq_true, if_false]
        refine ⟨S.cps.size + 1 - (i + 1), dec_lt (by assumption), h4, tk4, i + 1, ys, oc', _, rfl, hlt, rfl, hst₄, F₄, N₅, hdc', ?_⟩
        rw [pickS_succ, hp, if_neg (by decide), List.append_nil]
        exact hys
    · obtain rfl : i = S.cps.size := Nat.le_antisymm hi (Nat.not_lt.mp hlt)
      refine W.done _ _ _ hst fun h₂ tk₂ hk₂ => ?_
      have F₂ : Fr h₀ L h₂ m := fr_but F' hk₂ hJL hJ₀
      have N₂ := news_but N' hk₂ fun p hp => by
        rcases List.mem_cons.mp hp with rfl | hp
        · exact Nat.ne_of_gt (show @LT.lt Nat _ J (J + 3) by omega)
        rcases List.mem_cons.mp hp with rfl | hp
        · exact Nat.ne_of_gt (show @LT.lt Nat _ J (J + 2) by omega)
        rcases List.mem_cons.mp hp with rfl | hp
        · exact Nat.ne_of_gt (show @LT.lt Nat _ J (J + 1) by omega)
        · exact Nat.ne_of_lt (hltJ p hp)
      refine ⟨fun _ => none, ⟨_, #[], 0, (N₂ _ (.tail _ (.head _))).1, rfl, fun e he => absurd he (by simp), fun _ => rfl⟩, fun h'' hs'' => hQ (J + 1) h'' _ ys (F₂.change hs'' hCL hC₀) (fun p hp => ?_) (fun p hp => Nat.lt_trans (hltJ p hp) (show @LT.lt Nat _ J (J + 1) by omega)) hys⟩
      have z := N₂ p (.tail _ (.tail _ hp))
      refine ⟨hs''.extBut _ _ ?_ z.1, z.2⟩
      rcases List.mem_cons.mp hp with rfl | hp
      · exact Nat.ne_of_lt (show @LT.lt Nat _ (J + 1) (J + 2) by omega)
      · exact Nat.ne_of_lt (Nat.lt_trans (hltJ p hp) (show @LT.lt Nat _ J (J + 2) by omega))
  exact codeAny_compStart_list loop (W.self 0 _ _ _ ⟨oJ, gJ, by rw [← hoJ], by rw [← hoJ]; rfl⟩ loop)
end

end
-- B23
section
open PySem PySem.W PyProof.Rows PySem.Calls PySem.Spec PyProof.Rows.LCg PyProof.Rows.LCt
/-- the items at the places that p takes, from the place i on, k of them -/
noncomputable def pickV (vs : List Value) (p : Nat → Bool) (k : Nat) : List Value := ((List.range k).filter p).filterMap fun j => vs[j]?
theorem pickV_succ (vs : List Value) (p : Nat → Bool) (k : Nat) {v : Value} (h : vs[k]? = some v) : pickV vs p (k + 1) = pickV vs p k ++ (if p k then [v] else []) := by
  unfold pickV
  rw [List.range_succ, List.filter_append, List.filterMap_append]
  congr 1
  cases hp : p k <;> simp [List.filter, hp, h]
theorem pickV_nil (vs : List Value) (p : Nat → Bool) (k : Nat) (hk : k ≤ vs.length) : (pickV vs p k).length = 0 ↔ (List.range k).any p = false := by
  induction k with
  | zero => simp [pickV]
  | succ k ih =>
    obtain ⟨v, hv⟩ : ∃ v, vs[k]? = some v := ⟨_, List.getElem?_eq_getElem (by omega)⟩
    rw [pickV_succ vs p k hv, List.range_succ, List.any_append, List.length_append]
    have := ih (by omega)
    cases hp : p k <;> simp_all
section
variable {prog : Program} {w : World} {A : Around} {E : Value → Shared → Prop} {s : Shared} {env : Env} {scope : Scope} {pos px pe : Pos} {x : Str} {cl : List (Str × Addr)} {h₀ : Heap} {L ax : Addr} {m : Str → Option Value} {news : List (Addr × Obj)} {ct i1 : PySem.Expr} {vs : List Value} {e : Nat}
/-- [x for x in xs if ..]: a test that changes nothing -/
theorem compP_K {Q : Value → Shared → Prop} (p : Nat → Bool) (F : Fr h₀ L s.heap m) (N : News h₀ L s.heap news) (hm : (ax, listOf vs.toArray e) ∈ news) (hh : A.handled = none) (hsz : vs.length ≤ 1000)
    (hclos : closureFor scope env = pure cl) (hcell : ∀ y ∈ scope.names, y.2 ≠ .cell) (hkind : scope.kind = .function) (hnames : ∀ y ∈ scope.names, y.2 = .local → scope.names.lookup y.1 = some .local) (hx : scope.names.lookup x = some .local)
    (e1 : wpAny (model prog w) A (eval i1 env) (fun xv s₁ => xv = .ref ax ∧ s₁ = s) E s)
    (htest : ∀ (C : Addr) (oC : Obj) (m₂ : Str → Option Value) (h : Heap) (tk i : Nat) (v : Value) (E' : Value → Shared → Prop), vs[i]? = some v → h.Ns C m₂ → m₂ x = some v → Fr h₀ L h m → News h₀ L h news →
      wpAny (model prog w) A (isTrue ct (compEnvC scope cl C env) (eval ct (compEnvC scope cl C env))) (fun ok s' => ok = p i ∧ ∃ tk', s' = { s with heap := h, toks := tk' }) E' { s with heap := h, toks := tk })
    (helt : ∀ (C : Addr) (m₂ : Str → Option Value) (s' : Shared) (v : Value) (E' : Value → Shared → Prop), s'.heap.Ns C m₂ → m₂ x = some v →
      wpAny (model prog w) A (eval (.Name x pe) (compEnvC scope cl C env)) (fun y s'' => y = v ∧ s'' = s') E' s')
    (hQ : ∀ D h tk, Fr h₀ L h m → News h₀ L h ((D, lst (pickV vs p vs.length)) :: news) → Off1 D news → Q (.ref D) { s with heap := h, toks := tk })
    (hs : ∀ x, foldedSetIterable i1 env x = pure x := by intro _; rfl) :
    wpAny (model prog w) A (eval (.ListComp (.Name x pe) [⟨.Name x px, i1, [ct], 0⟩] scope pos) env) Q E s := by
  refine ListComp_T F hclos hcell hkind hnames hx (wpAny_mono e1 (fun xv s₁ h₁ => ?_) fun _ _ e => e) hs
  obtain ⟨rfl, rfl⟩ := h₁
  refine CompSrcT.ledger hh F N hm (by rw [List.size_toArray, sizeLine_eq]; omega) fun g => ?_
  have S0 : SrcAt h₀ ax vs.toArray news := .inr ⟨_, hm, rfl, e, rfl⟩
  have key : ∀ k i, i + k = vs.length → CompRestT prog w A h₀ L m env ct (.Name x pe) x scope cl { s₁ with heap := g } (SrcAt h₀ ax vs.toArray) (fun i v => vs.toArray[i]? = some v) (FinE h₀ L m { s₁ with heap := g } Q) k i (pickV vs p i) news := by
    intro k
    induction k with
    | zero =>
      intro i hi
      refine CompRestT.zero ?_
      have hi' : i = vs.length := by omega
      subst hi'
      intro D h tk F' N' o1
      exact hQ D h tk F' N' o1
    | succ k ih =>
      intro i hi
      refine CompRestT.succ ?_
      intro v I oI C oC D m₂ h tk E' hv hC hmx F' N' off hne
      have hv' : vs[i]? = some v := by simpa using hv
      have hn : h.Ns C m₂ := hC.ns (N' _ (.tail _ (.head _))).1
      have N2 : News h₀ L h news := fun p hp => N' p (.tail _ (.tail _ (.tail _ hp)))
      refine wpAny_mono (htest C oC m₂ h tk i v E' hv' hn hmx F' N2) (fun ok s' hs' => ?_) fun _ _ e => e
      obtain ⟨rfl, tk', rfl⟩ := hs'
      have hrec := ih (i + 1) (by omega)
      rw [pickV_succ vs p i hv'] at hrec
      cases hp : p i with
      | true =>
        rw [hp] at hrec
        simp only [if_true] at hrec ⊢
        refine wpAny_mono (helt C m₂ _ v E' hn hmx) (fun y s'' hs'' => ?_) fun _ _ e => e
        obtain ⟨rfl, rfl⟩ := hs''
        exact ⟨h, tk', news, rfl, F', N', off, S0, hrec⟩
      | false =>
        rw [hp] at hrec
        simp only [Bool.false_eq_true, if_false, List.append_nil] at hrec ⊢
        exact ⟨h, tk', news, rfl, F', N', off, S0, hrec⟩
  have := key vs.length 0 (by omega)
  rw [List.size_toArray]
  exact this
/-- a list is not the empty list -/
theorem ne_nil_K {a b : Addr} {oa ob : Obj} {ys : List Value} {k k' : Nat} {Q : Value → Shared → Prop} (N : News h₀ L s.heap news) (ha : (a, oa) ∈ news) (ca : oa.cls = .type "list") (da : oa.data = .seq ys.toArray k) (hb : (b, ob) ∈ news) (cb : ob.cls = .type "list") (db : ob.data = .seq #[] k') (hu : A.units < cLine)
    (h : Q (.bool (decide (ys.length ≠ 0))) s) : wpAny (model prog w) A (compareOp .NotEq (.ref a) (.ref b)) Q E s := by
  have la : s.heap.IsList a ys.toArray := ⟨_, (N _ ha).1, ca, k, da⟩
  have lb : s.heap.IsList b #[] := ⟨_, (N _ hb).1, cb, k', db⟩
  cases ys with
  | nil =>
    refine (PySem.SeqAt.RcNeAt.lists (e := fun _ => true) la lb rfl hu (fun j h1 _ => absurd h1 (by simp))) prog w E Q ?_
    simpa using h
  | cons y r =>
    refine (PySem.SeqAt.RcNeAt.lists_lengths la lb (by simp) hu) prog w E Q ?_
    simpa using h
end

end
-- B24
section
theorem ite_ff9 {P R : Prop} (h : R) : if false = true then P else R := by simpa using h
theorem ite_tt9 {P R : Prop} (h : P) : if true = true then P else R := by simpa using h
theorem ifn_hit {c : Prop} [Decidable c] {v : Value} {r : Option Value} (h : c) : (if c then some v else r) = some v := if_pos h
theorem ifn_skip {c : Prop} [Decidable c] {u v : Value} {r : Option Value} (h : ¬ c) (h2 : r = some v) : (if c then some u else r) = some v := (if_neg h).trans h2

end
-- B25
section
open PySem PySem.W PyProof.Rows PySem.Calls PySem.Spec PyProof.Rows.LCg
section
variable {prog : Program} {w : World} {A : Around} {E : Value → Shared → Prop} {s : Shared} {env : Env} {scope : Scope} {pos spos px py : Pos} {x y : Str} {cl : List (Str × Addr)} {h₀ : Heap} {L ax : Addr} {m : Str → Option Value} {news : List (Addr × Obj)} {elt i1 : PySem.Expr} {vs : List Value} {e : Nat}
/-- one turn of a comprehension, by an invariant over the place, the values made and the ledger -/
noncomputable def TurnG (prog : Program) (w : World) (A : Around) (h₀ : Heap) (L : Addr) (m : Str → Option Value) (env : Env) (elt : PySem.Expr) (x : Str) (scope : Scope) (cl : List (Str × Addr)) (s : Shared) (vs : List Value) (S : List (Addr × Obj) → Prop) (Inv : Nat → List Value → List (Addr × Obj) → Prop) : Prop :=
  ∀ i ys nw v I oI C oC D m₂ h tk (E' : Value → Shared → Prop), vs[i]? = some v → Inv i ys nw → S nw → NsObj oC m₂ → m₂ x = some v → Fr h₀ L h m → News h₀ L h ((I, oI) :: (C, oC) :: (D, lst ys) :: nw) → Off3 I C D nw → ((@Ne Nat I C) ∧ (@Ne Nat I D) ∧ (@Ne Nat C D)) →
    wpAny (model prog w) A (eval elt (compEnvC scope cl C env)) (CompEnd h₀ L m { s with heap := h, toks := tk } I oI C oC D (lst ys) S (fun y nw' => Inv (i + 1) (ys ++ [y]) nw')) E' { s with heap := h, toks := tk }
theorem rest_of {S : List (Addr × Obj) → Prop} {Inv : Nat → List Value → List (Addr × Obj) → Prop} {Fin : List Value → List (Addr × Obj) → Prop} (T : TurnG prog w A h₀ L m env elt x scope cl s vs S Inv) (hF : ∀ ys nw, Inv vs.length ys nw → S nw → Fin ys nw) :
    ∀ k i ys nw, i + k = vs.length → Inv i ys nw → S nw → CompRest prog w A h₀ L m env elt x scope cl s S (fun i v => vs.toArray[i]? = some v) Fin k i ys nw := by
  intro k
  induction k with
  | zero => intro i ys nw hi hI hS; obtain rfl : i = vs.length := by omega
            exact CompRest.zero (hF ys nw hI hS)
  | succ k ih =>
    intro i ys nw hi hI hS
    refine CompRest.succ ?_
    intro v I oI C oC D m₂ h tk E' hv hC hmx F' N' off hne
    refine wpAny_mono (T i ys nw v I oI C oC D m₂ h tk E' (by simpa using hv) hI hS hC hmx F' N' off hne) (fun y s' hs' => ?_) fun _ _ e => e
    obtain ⟨h', tk', nw', rfl, F2, N2, o2, S2, r2⟩ := hs'
    exact ⟨h', tk', nw', rfl, F2, N2, o2, S2, ih (i + 1) _ _ (by omega) r2 S2⟩
theorem compG_K {Q : Value → Shared → Prop} (Inv : Nat → List Value → List (Addr × Obj) → Prop) (F : Fr h₀ L s.heap m) (N : News h₀ L s.heap news) (hm : (ax, listOf vs.toArray e) ∈ news) (hh : A.handled = none) (hsz : vs.length ≤ 1000)
    (hclos : closureFor scope env = pure cl) (hcell : ∀ y ∈ scope.names, y.2 ≠ .cell) (hkind : scope.kind = .function) (hnames : ∀ y ∈ scope.names, y.2 = .local → scope.names.lookup y.1 = some .local) (hx : scope.names.lookup x = some .local)
    (e1 : wpAny (model prog w) A (eval i1 env) (fun xv s₁ => xv = .ref ax ∧ s₁ = s) E s) (h0 : Inv 0 [] news)
    (T : ∀ g, TurnG prog w A h₀ L m env elt x scope cl { s with heap := g } vs (SrcAt h₀ ax vs.toArray) Inv)
    (hQ : ∀ D h tk ys nw, Fr h₀ L h m → News h₀ L h ((D, lst ys) :: nw) → Off1 D nw → Inv vs.length ys nw → Q (.ref D) { s with heap := h, toks := tk })
    (hs : ∀ x, foldedSetIterable i1 env x = pure x := by intro _; rfl) :
    wpAny (model prog w) A (eval (.ListComp elt [⟨.Name x px, i1, [], 0⟩] scope pos) env) Q E s := by
  refine ListComp_U F hclos hcell hkind hnames hx (wpAny_mono e1 (fun xv s₁ h₁ => ?_) fun _ _ e => e) hs
  obtain ⟨rfl, rfl⟩ := h₁
  have S0 : SrcAt h₀ ax vs.toArray news := .inr ⟨_, hm, rfl, e, rfl⟩
  refine .inl ⟨ax, vs.toArray, news, rfl, hh, F, N, S0, by rw [List.size_toArray, sizeLine_eq]; omega, ?_⟩
  rintro s₂ ⟨g, rfl⟩
  rw [List.size_toArray]
  refine rest_of (T g) (fun ys nw hI _ => ?_) vs.length 0 [] news (by omega) h0 S0
  intro D h tk F' N' o1
  exact hQ D h tk ys nw F' N' o1 hI
end

end
-- B26
section
open PySem PySem.W PyProof.Rows PySem.Calls PySem.Spec PySem.SeqAt
section
variable {prog : Program} {w : World} {A : Around} {E : Value → Shared → Prop} {s : Shared} {a b : Addr} {xs ys : List Value} {S : List Str} {Q : Value → Shared → Prop}
theorem ne_strs_same (la : s.heap.IsList a xs.toArray) (lb : s.heap.IsList b ys.toArray) (hx : StrsAre xs S) (hy : StrsAre ys S) (hu : A.units < cLine) (h : Q (.bool false) s) : wpAny (model prog w) A (compareOp .NotEq (.ref a) (.ref b)) Q E s := by
  refine (RcNeAt.lists (e := fun _ => true) la lb (by rw [List.size_toArray, List.size_toArray, hx.len_eq, hy.len_eq]) hu (fun j h1 h2 => ?_)) prog w E Q ?_
  · obtain ⟨y, t, e1, e2⟩ := hx.item j xs[j] (List.getElem?_eq_getElem (by simpa using h1))
    obtain ⟨y', t', e3, e4⟩ := hy.item j ys[j] (List.getElem?_eq_getElem (by simpa using h2))
    rw [e2] at e4
    cases e4
    have q := EqAt.str_str (A := A.in1) (s := s) y t y t'
    rw [beq_self_eq_true] at q
    simp only [List.getElem_toArray]
    rw [e1, e3]
    exact q
  · rw [show (List.range xs.toArray.size).all (fun _ => true) = true from List.all_eq_true.mpr fun _ _ => rfl]
    exact h
end

end
-- B28
section
open PySem PySem.W PyProof.Rows PySem.Calls PySem.Spec PySem.SeqAt
set_option autoImplicit false
section
variable {prog : Program} {w : World} {A : Around} {E : Value → Shared → Prop} {s : Shared} {a b : Addr} {xs ys : List Value} {S : List Str} {Q : Value → Shared → Prop}
theorem all_true (n : Nat) : (List.range n).all (fun _ => true) = true := List.all_eq_true.mpr fun _ _ => rfl
theorem eq_strs_same (la : s.heap.IsList a xs.toArray) (lb : s.heap.IsList b ys.toArray) (hx : StrsAre xs S) (hy : StrsAre ys S) (hu : A.units < cLine) (h : Q (.bool true) s) : wpAny (model prog w) A (compareOp .Eq (.ref a) (.ref b)) Q E s := by
  refine eq_listAt (e := fun _ => true) la lb (by rw [List.size_toArray, List.size_toArray, hx.len_eq, hy.len_eq]) hu (fun j h1 h2 => ?_) ?_
  · obtain ⟨y, t, e1, e2⟩ := hx.item j xs[j] (List.getElem?_eq_getElem (by simpa using h1))
    obtain ⟨y', t', e3, e4⟩ := hy.item j ys[j] (List.getElem?_eq_getElem (by simpa using h2))
    rw [e2] at e4
    cases e4
    have q := EqAt.str_str (A := A.in1) (s := s) y t y t'
    rw [beq_self_eq_true] at q
    simp only [List.getElem_toArray]
    rw [e1, e3]
    exact q
  · rw [all_true]; exact h
/-- a list of pairs of ints at given places -/
noncomputable def PairsAre (h : Heap) (vs : List Value) (ps : List (Int × Int)) : Prop :=
  vs.length = ps.length ∧ ∀ (j : Nat) (v : Value), vs[j]? = some v → ∃ p l t u, ps[j]? = some p ∧ v = .ref l ∧ h.IsTuple l #[.int p.1 t, .int p.2 u]
theorem eq_pairs_same {ps : List (Int × Int)} (la : s.heap.IsList a xs.toArray) (lb : s.heap.IsList b ys.toArray) (hx : PairsAre s.heap xs ps) (hy : PairsAre s.heap ys ps) (hu : A.units < cLine) (hu2 : A.in1.units < cLine) (h : Q (.bool true) s) : wpAny (model prog w) A (compareOp .Eq (.ref a) (.ref b)) Q E s := by
  refine eq_listAt (e := fun _ => true) la lb (by rw [List.size_toArray, List.size_toArray, hx.1, hy.1]) hu (fun j h1 h2 => ?_) ?_
  · obtain ⟨p, l, t, u, e0, e1, e2⟩ := hx.2 j xs[j] (List.getElem?_eq_getElem (by simpa using h1))
    obtain ⟨p', l', t', u', e0', e1', e2'⟩ := hy.2 j ys[j] (List.getElem?_eq_getElem (by simpa using h2))
    rw [e0] at e0'
    cases e0'
    simp only [List.getElem_toArray]
    rw [e1, e1']
    rcases Classical.em (l = l') with rfl | hne
    · exact EqAt.same _
    · refine EqAt.of_refs hne ?_
      have q := RcAt.tuples (A := A.in1) (e := fun _ => true) e2 e2' hu2 (fun j h1 h2 => ?_)
      · rw [show (List.range (min (#[Value.int p.1 t, Value.int p.2 u] : Array Value).size (#[Value.int p.1 t', Value.int p.2 u'] : Array Value).size)).all (fun _ => true) = true from all_true _] at q
        exact q
      · have hj : j = 0 ∨ j = 1 := by
          have : j < 2 := h1
          omega
        rcases hj with rfl | rfl
        · have q := EqAt.int_int (A := A.in1.in1) (s := s) p.1 t p.1 t'
          rw [beq_self_eq_true] at q
          exact q
        · have q := EqAt.int_int (A := A.in1.in1) (s := s) p.2 u p.2 u'
          rw [beq_self_eq_true] at q
          exact q
  · rw [all_true]; exact h
theorem eq_none_empty (la : s.heap.IsList a xs.toArray) (lb : s.heap.IsList b #[]) (hx : 0 < xs.length) (hu : A.units < cLine) (h : Q (.bool false) s) : wpAny (model prog w) A (compareOp .Eq (.ref a) (.ref b)) Q E s :=
  eq_list_lengthsAt la lb (by rw [List.size_toArray]; simp; intro h0; rw [h0] at hx; exact Nat.lt_irrefl _ hx) hu h
theorem eq_both_empty (la : s.heap.IsList a #[]) (lb : s.heap.IsList b #[]) (hu : A.units < cLine) (h : Q (.bool true) s) : wpAny (model prog w) A (compareOp .Eq (.ref a) (.ref b)) Q E s :=
  eq_listAt (e := fun _ => true) la lb rfl hu (fun j h1 _ => absurd h1 (Nat.not_lt_zero _)) h
end

end
-- B29
section
set_option autoImplicit false
/-- the end of a law that leaves finished generators behind -/
noncomputable def EndB (s₁ : Shared) (tabs : List (Addr × Addr)) (r : Result) (s' : Shared) : Prop :=
  r = .ok (.ret (.bool true)) ∧ (∀ b o, (ghostOf s₁.heap tabs).get? b = some o → s'.heap.get? b = some o) ∧ s'.os = s₁.os ∧ AllBare s'.gens ∧ GrownAll tabs s'.heap
theorem kn_postB {M : Model} {A : Around} {cd : Code} {s s₁ : Shared} {cw : ClaimW} {cl : Str → Option Addr} {mean : ExcName → Option Value} {args : List WData} {tabs : List (Addr × Addr)} (hT : TabsAt tabs s₁.heap) (hr : ∀ a x, cw.raises a x = false) (hp : cw.post args (.bool true) args = true)
    (h : codeAny M A cd (EndB s₁ tabs) s) : codeAny M A cd (GoodWG cw cl mean args s₁) s :=
  codeAny_mono h fun r s' ⟨hc, hk, hos, hg, hgr⟩ => by
    have keep : ∀ b o, b ∉ tabs.map (·.2) → s₁.heap.get? b = some o → s'.heap.get? b = some o := fun b o hb e => hk b o (ghost_ne e hb)
    have grown : ∀ b o, b ∈ tabs.map (·.2) → s₁.heap.get? b = some o → isCodeTable s₁.heap b ∧ o = tabObj #[] ∧ ∃ ps, s'.heap.get? b = some (tabObj ps) := fun b o hb e => by
      obtain ⟨q, hq, rfl⟩ := List.mem_map.mp hb
      have e2 := (hT q hq).2
      rw [e] at e2
      exact ⟨((hT q hq).1.tab (hT q hq).2).isCodeTable, Option.some.inj e2, hgr.get q hq⟩
    refine ⟨?_, ⟨fun b o e => ?_, fun b o e => ?_⟩, hos, hg⟩
    · exact .inl ⟨_, _, [], hc, fun x => hr args x, ReadsW.bool true, hp, fun _ => ⟨List.nodup_nil, fun _ hm => (List.not_mem_nil hm).elim⟩⟩
    · by_cases hb : b ∈ tabs.map (·.2)
      · obtain ⟨ht, rfl, ps, hP⟩ := grown b o hb e
        exact .inr (.inl ⟨ht, rfl, #[], ps, rfl, by rw [Array.empty_append]; exact hP⟩)
      · exact .inl (keep b o hb e)
    · by_cases hb : b ∈ tabs.map (·.2)
      · obtain ⟨_, _, ps, hP⟩ := grown b o hb e
        exact ⟨_, hP⟩
      · exact ⟨o, keep b o hb e⟩

end
-- CE
section
section
variable {h₀ h' : Heap} {L D c' : Addr} {m : Str → Option Value} {t1 t2 o oc' : Obj} {rest K led : List (Addr × Obj)} {s : Shared} {Q : Value → Shared → Prop} {Res : List (Addr × Obj) → Value → Prop} {r : Value} {tk : Nat} {vs' : Array Value} {tq : Tok}
/-- what a contract with the two code tables hands back -/
noncomputable def Ret2 (h₀ : Heap) (L : Addr) (m : Str → Option Value) (rest K : List (Addr × Obj)) (s : Shared) (Q : Value → Shared → Prop) (Res : List (Addr × Obj) → Value → Prop) : Prop :=
  ∀ r add t1' t2' h' tk', Fr h₀ L h' m → News h₀ L h' ((54, t1') :: (47, t2') :: (add ++ rest)) → (∀ p ∈ add, ∀ q ∈ rest, q.1 < p.1) → (∀ p ∈ add, L < p.1) → Ok54 t1' (add ++ K) → Ok47 t2' (add ++ K) → Res add r → Q r { s with heap := h', toks := tk' }
theorem end47 (hret : Ret2 h₀ L m rest K s Q Res) (F : Fr h₀ L h' m) (N : News h₀ L h' led) (hsub : ∀ p ∈ (D, o) :: (c', oc') :: (54, t1) :: (47, tabObj #[rawInt ((33 : Nat) : Int), rawInt ((4 : Nat) : Int), .ref c']) :: rest, p ∈ led)
    (new' : (c', oc') ∈ K ∨ (L < c' ∧ ∀ q ∈ rest, q.1 < c')) (hD : AllLt D rest) (hLD : L < D) (ok1 : Ok54 t1 K) (d1 : oc'.data = .fields vs') (d2 : vs'[1]? = some (.str (Str.ofString "_int2digits.<locals>.inner") tq)) (hres : ∀ more, Res ((D, o) :: more) r) :
    Q r { s with heap := h', toks := tk } := by
  rcases new' with hm | ⟨hL, hlt⟩
  · refine hret r [(D, o)] t1 _ h' tk F (news_perm N (sub_cons (hsub _ (mem_t (mem_t mem_h))) (sub_cons (hsub _ (mem_t (mem_t (mem_t mem_h)))) (sub_cons (hsub _ mem_h) fun p hp => hsub p (mem_t (mem_t (mem_t (mem_t hp)))))))) (List.forall_mem_cons.mpr ⟨allLt_all' hD, List.forall_mem_nil _⟩) (List.forall_mem_cons.mpr ⟨hLD, List.forall_mem_nil _⟩) (ok1.mono fun p hp => mem_t hp) (.inr ⟨c', oc', vs', tq, rfl, mem_t hm, d1, d2⟩) (hres [])
  · refine hret r [(D, o), (c', oc')] t1 _ h' tk F (news_perm N (sub_cons (hsub _ (mem_t (mem_t mem_h))) (sub_cons (hsub _ (mem_t (mem_t (mem_t mem_h)))) (sub_cons (hsub _ mem_h) (sub_cons (hsub _ (mem_t mem_h)) fun p hp => hsub p (mem_t (mem_t (mem_t (mem_t hp))))))))) (List.forall_mem_cons.mpr ⟨allLt_all' hD, List.forall_mem_cons.mpr ⟨hlt, List.forall_mem_nil _⟩⟩) (List.forall_mem_cons.mpr ⟨hLD, List.forall_mem_cons.mpr ⟨hL, List.forall_mem_nil _⟩⟩) (ok1.mono fun p hp => mem_t (mem_t hp)) (.inr ⟨c', oc', vs', tq, rfl, mem_t mem_h, d1, d2⟩) (hres [(c', oc')])
theorem end54 (hret : Ret2 h₀ L m rest K s Q Res) (F : Fr h₀ L h' m) (N : News h₀ L h' led) (hsub : ∀ p ∈ (c', oc') :: (54, tabObj #[rawInt ((48 : Nat) : Int), rawInt ((4 : Nat) : Int), .ref c']) :: (47, t2) :: rest, p ∈ led)
    (new' : (c', oc') ∈ K ∨ (L < c' ∧ ∀ q ∈ rest, q.1 < c')) (ok2 : Ok47 t2 K) (d1 : oc'.data = .fields vs') (d2 : vs'[1]? = some (.str (Str.ofString "_digits2int.<locals>.inner") tq)) (hres : ∀ add, Res add r) :
    Q r { s with heap := h', toks := tk } := by
  rcases new' with hm | ⟨hL, hlt⟩
  · refine hret r [] _ t2 h' tk F (news_perm N (sub_cons (hsub _ (mem_t mem_h)) (sub_cons (hsub _ (mem_t (mem_t mem_h))) fun p hp => hsub p (mem_t (mem_t (mem_t hp)))))) (List.forall_mem_nil _) (List.forall_mem_nil _) (.inr ⟨c', oc', vs', tq, rfl, hm, d1, d2⟩) ok2 (hres [])
  · refine hret r [(c', oc')] _ t2 h' tk F (news_perm N (sub_cons (hsub _ (mem_t mem_h)) (sub_cons (hsub _ (mem_t (mem_t mem_h))) (sub_cons (hsub _ mem_h) fun p hp => hsub p (mem_t (mem_t (mem_t hp))))))) (List.forall_mem_cons.mpr ⟨hlt, List.forall_mem_nil _⟩) (List.forall_mem_cons.mpr ⟨hL, List.forall_mem_nil _⟩) (.inr ⟨c', oc', vs', tq, rfl, mem_h, d1, d2⟩) (ok2.mono fun p hp => mem_t hp) (hres [(c', oc')])
end

end
-- C1
section
theorem fill1 : PySem.Challenge.rw_ij0118_01 = PySem.Challenge.rw_ij0118_01 ∧ hd.heap_1 = hd.heap_1 := by
  k_fill
  exact ⟨rfl, rfl⟩
theorem div2n1n_spec {w loose mean mg mb} (x b n : Int) (tx tb tn : Tok) (hx : 0 ≤ x) (hx2 : x < 4096) (hb : 0 < b) (hb2 : b < 5) (hn : 0 ≤ n) :
   Spec w loose mean mg mb 360 60 38 (fun _ => True) [.int x tx, .int b tb, .int n tn] (fun add r => ∃ l t1 t2, r = .ref l ∧ add = [(l, tupO [.int (x.fdiv b) t1, .int (x.fmod b) t2])]) := by
  intro dp un gd cn cs a ccd cl outer A₀ base h₀ L m news s Q E hdp hun B F X N T hk _ hret
  refine around_le (A' := ktrTop 360 60 gd cn cs L a ccd cl outer) rfl hdp rfl rfl hun ?_
  obtain ⟨k, nm, g, c, mo⟩ := cs
  subst hk
  have hbits := intBits_le_64 (k := x) (by omega) (by omega)
  k_steps
  refine hret _ [_] _ _ (by assumption) (by assumption) (lt_one (by assumption)) ⟨_, _, _, rfl, rfl⟩

end
-- C2
section
theorem fill2 : PySem.Challenge.rw_ij0118_01 = PySem.Challenge.rw_ij0118_01 ∧ hd.heap_1 = hd.heap_1 := by
  k_fill
  exact ⟨rfl, rfl⟩
end
local macro_rules | `(tactic| k_slotget) => `(tactic| with_reducible first | assumption | exact t1 (by assumption) | exact t2 (by assumption) | exact t3 (by assumption) | exact t4 (by assumption) | exact t5 (by assumption) | exact t6 (by assumption) | exact t7 (by assumption) | exact t8 (by assumption) | exact t9 (by assumption) | exact t10 (by assumption) | exact t11 (by assumption) | exact t12 (by assumption))
local macro_rules | `(tactic| k_all) => `(tactic| first
  | exact List.forall_mem_nil _
  | (with_reducible refine' List.forall_mem_cons.mpr ⟨?a, ?b⟩; (case a => k_ne); (case b => k_all))
  | (with_reducible assumption)
  | exact ne_rest (by k_slotget)
  | exact fun p hp => ((by assumption : ∀ p ∈ _, p.1 ≠ 54 ∧ p.1 ≠ 47) p hp).1
  | exact fun p hp => ((by assumption : ∀ p ∈ _, p.1 ≠ 54 ∧ p.1 ≠ 47) p hp).2
  | (intro p9 hp9; refine neN ?_; (repeat ((rename And _ _ => hC9); (obtain ⟨_, _⟩ := hC9))); (repeat ((rename AllLt _ _ => hA9); (have hB9 := allLt_all hA9 p9 hp9); (clear hA9))); (try dsimp only); omega))
local macro_rules | `(tactic| k_ne) => `(tactic| first
  | (refine neN ?_; (try dsimp only); omega)
  | exact ne_fc (by k_asm) (by k_mem) (by k_mem) (by assumption) (by assumption)
  | exact (ne_fc (by k_asm) (by k_mem) (by k_mem) (by assumption) (by assumption)).symm
  | exact ne_fl (by k_asm) (by k_mem) (by k_mem) (by assumption) rfl
  | exact (ne_fl (by k_asm) (by k_mem) (by k_mem) (by assumption) rfl).symm)
local macro_rules | `(tactic| k_data) => `(tactic| with_reducible first | exact mem_h | (k_dflt exact mem_h) | assumption | (refine' mem_t ?_; k_data) | (refine' mem_r ?_; k_data) | (refine' mem_l ?_; k_data))
local macro_rules | `(tactic| k_slotset) => `(tactic| with_reducible first | exact sub_nil | exact sub_here | assumption | (refine' sub_cons ?_ ?_; k_data; k_slotset) | (refine' sub_app ?_ ?_; k_slotset; k_slotset) | (refine' sub_tail ?_; k_slotset) | (refine' sub_right ?_; k_slotset) | (refine' sub_left ?_; k_slotset))
section
noncomputable def InnerAt (w : World) (loose : List Str) (mean : ExcName → Option Value) (mg mb : Str → Option Value) (n : Int) (l f c' z cA cB cC : Addr) (fo oc oz oA oB oC : Obj) (k : Nat) : Prop :=
  ∀ (x lo hi : Int) (tx tl th : Tok) (vs : List Value) (ns : List Int) (dp un : Nat) (gd : Option (List Code)) (cn : Str) (cs : Scope) (a : Addr) (ccd : Value) (cl : List (Str × Addr)) (outer : List Env) (A₀ : Around) (base h₀ : Heap) (L : Addr)
    (m : Str → Option Value) (rest : List (Addr × Obj)) (s : Shared) (Q E : Value → Shared → Prop), hi - lo = k → 0 < k → 0 ≤ x → x < 4096 → 0 ≤ lo → IntsAre vs ns → hi ≤ ns.length → ns.length ≤ 64 → dp + k ≤ 700 → un + 8 * k ≤ 800 →
    Below A₀ base outer h₀ → Fr h₀ L s.heap m → (hd.heap_1 w.params).In h₀ → News h₀ L s.heap ((l, listOf vs.toArray 0) :: (f, fo) :: (c', oc) :: (z, oz) :: (cA, oA) :: (cB, oB) :: (cC, oC) :: rest) → (∀ p ∈ rest, p.1 ≠ l) → Top topProg loose mean mg mb h₀ → cs.kind = .function →
    (∀ h' tk' vs' ds, Fr h₀ L h' m → News h₀ L h' ((l, listOf (vs.take lo.toNat ++ vs' ++ vs.drop hi.toNat).toArray 0) :: (f, fo) :: (c', oc) :: (z, oz) :: (cA, oA) :: (cB, oB) :: (cC, oC) :: rest) → IntsAre vs' ds → Good n.toNat k x ds → Q .none { s with heap := h', toks := tk' }) →
    wpAny (model PySem.Challenge.rw_ij0118_01.row.prog w) (ktrTop dp un gd cn cs L a ccd cl outer) (call (.ref f) [.int x tx, .int lo tl, .int hi th]) Q E s
theorem use_inner {P : Prop} (w : World) (loose : List Str) (mean : ExcName → Option Value) (mg mb : Str → Option Value) (n : Int) {h₀ h : Heap} {L l f c' z cA cB cC : Addr} {o fo oc oz oA oB oC : Obj} {r : List (Addr × Obj)}
   (_N : News h₀ L h ((l, o) :: (f, fo) :: (c', oc) :: (z, oz) :: (cA, oA) :: (cB, oB) :: (cC, oC) :: r)) (claim : ∀ k, (∀ j, j < k → InnerAt w loose mean mg mb n l f c' z cA cB cC fo oc oz oA oB oC j) → InnerAt w loose mean mg mb n l f c' z cA cB cC fo oc oz oA oB oC k)
   (cont : (∀ k, InnerAt w loose mean mg mb n l f c' z cA cB cC fo oc oz oA oB oC k) → P) : P := cont fun k => Nat.strongRecOn k claim
theorem int2digits_spec {w loose mean mg mb} (x n : Int) (D : Nat) (tx tn : Tok) (hx : 0 ≤ x) (hx2 : x < 4096) (hn : 0 < n) (hn2 : n < 4) (hD : ((Builtin.Int.intBits x : Int) + n - 1).fdiv n = D) (hD2 : D ≤ 64) :
   TS2 w loose mean mg mb 360 60 52 (fun _ => True) [.int x tx, .int n tn] (fun add r => ∃ l vs ds more, r = .ref l ∧ add = (l, lstO vs) :: more ∧ IntsAre vs ds ∧ (if x = 0 then ds = [] else Good n.toNat D x ds)) := by
  intro dp un gd cn cs a ccd cl outer A₀ base h₀ L m t1 t2 rest K s Q E hdp hun B F X N T hk cd1 cd2 hne hL ok1 ok2 hK _ hret
  refine around_le (A' := ktrTop 360 60 gd cn cs L a ccd cl outer) rfl hdp rfl rfl hun ?_
  obtain ⟨k, nm, g, c, mo⟩ := cs
  subst hk
  walk1
  have hLL := frame_lt (h₀ := h₀) (L := L) (m := m) (by assumption) (by assumption)
  iterate 22 (first | (k_unfold; (try dsimp only)) | walk1 | (dsimp only; walk1) | (leave1; walk_say "STEP leave1"; try dsimp only))
  dsimp only
  simp only [hD]
  iterate 4 (first | (k_unfold; (try dsimp only)) | walk1 | (dsimp only; walk1) | (leave1; walk_say "STEP leave1"; try dsimp only))
  rename _ ∧ _ ∧ _ ∧ _ ∧ _ ∧ _ ∧ AllLt _ rest => lD
  have hLD := Nat.lt_trans hLL (Nat.lt_of_succ_lt lD.2.2.2.1)
  refine nestDef_K rfl rfl rfl ?_
  refine nest_any (P := 47) (c := 51) (rs := K) ?hs (by k_asm) (by k_asm) (by k_asm) (CodeHd.keeps cd2 (Below.stays (by assumption))) rfl (by k_updF) ?_ rfl ?_
  case hs => intro p hp; simp [hK p hp]
  · exact ok2
  intro f' c' oc' vs' tq' ct' dc' h' tk' F' N' d1' d2' new' l1 l2
  try dsimp only at N'
  try k_lt l1
  try k_lt2 l2
  have new9 : (c', oc') ∈ K ∨ (L < c' ∧ ∀ q ∈ rest, q.1 < c') := new'.imp_right fun h => ⟨Nat.lt_trans hLL (Nat.lt_of_succ_lt (h _ (mem_t (mem_t (mem_t (mem_t mem_h)))))), fun q hq => h q (mem_t (mem_t (mem_t (mem_t (mem_t (mem_t (mem_t hq)))))))⟩
  clear new'
  iterate 1 (first | (k_unfold; (try dsimp only)) | walk1 | (dsimp only; walk1) | (leave1; walk_say "STEP leave1"; try dsimp only))
  k_dflt (refine use_inner w loose mean mg mb n (news_bring (by k_asm) 2 rfl) ?_ ?_)
  · intro k ih x lo hi tx tl th vs ns dp un gd cn cs a ccd cl outer A₀ base h₀ L m rest s Q E hlen hk hx hx2 hlo hints hhi hvs hdp hun B F X N hne T hcs hret
    obtain ⟨a0, rfl⟩ := Int.eq_ofNat_of_zero_le hlo
    obtain rfl := hi_eq hlen
    obtain ⟨hS0, hS1, hS2, hS3⟩ := shiftN (k := k) a0 hhi hvs hn hn2
    have hkN : a0 + k ≤ ns.length := Int.ofNat_le.mp hhi
    clear hlen hlo
    have hvl := hints.length
    refine wpAny_call ?_
    k_dflt (refine' code_nest ?k1 ?k2 ?k3 ?k4 ?k5 ?kA ?kF ?kK ?k6 ?k7 ?k8 ?k9 ?kB ?_ ?c2 ?c3 ?c4 ?c5; (case kA => exact rfl); (case kF => exact rfl); (case kK => exact hcs); (case k1 => k_asm); (case k2 => k_asm); (case k3 => k_asm); (case k4 => k_asm); (case k5 => k_asm); (case k6 => k_mem); (case k7 => exact codeRec_news (by k_asm) (by k_mem) (by assumption) (by assumption)); (case k8 => show dp < recursionLimit; have : recursionLimit = 1000 := rfl; omega); (case k9 => exact BindsTo.of_eq rfl); (case c5 => decide); (case kB => exact locs rfl); (case c2 => exact rfl); (case c3 => exact rfl); (case c4 => exact rfl))
    intro g' L' h' FG' F' N' B' X' T'
    try dsimp only
    try k_lift B'
    try k_fold
    (repeat' (first | (k_unfold; (try dsimp only)) | (k_end; wrow_close) | ((fail_if_success (with_reducible show wpAny _ _ (call (Value.ref _) _) _ _ _)); walk1) | ((fail_if_success (show wpAny _ _ (call (Value.ref _) _) _ _ _)); dsimp only; walk1) | (leave1; walk_say "STEP leave1"; try dsimp only) | fail "no step"))
    · have e2 : k = 1 := one_of (by assumption)
      subst e2
      refine hret _ _ [.int x tx] [x] (by k_asm) ?_ (.cons x tx .nil) (good_one hx)
      rw [Int.toNat_natCast, Int.toNat_natCast, ← splice1 (by omega)]
      k_asm
    · have r1 := low_range hx ((((a0 : Int) + ((a0 + k : Nat) : Int)).fdiv (2 ^ Int.toNat 1) - a0) * n).toNat
      have r2 := high_range hx ((((a0 : Int) + ((a0 + k : Nat) : Int)).fdiv (2 ^ Int.toNat 1) - a0) * n).toNat
      rw [half_nat] at *
      obtain ⟨f1, f2, f3, f4, f5, f6, f7, f8, f9⟩ := halfF (ne_one (by assumption)) hk hdp hun
      have hap : a0 + k / 2 ≤ ns.length := Nat.le_trans (Nat.add_le_add_left (Nat.le_of_lt f1) a0) hkN
      k_dflt (refine' ih (k / 2) f1 _ _ _ _ _ _ _ _ _ _ _ _ _ _ _ _ _ _ _ _ _ _ _ _ _ _ (sub_l _ _) f2 r1.1 (Int.lt_of_le_of_lt r1.2 hx2) (Int.natCast_nonneg _) hints (Int.ofNat_le.mpr hap) hvs f6 f7 ?p11 ?p12 ?p13 ?p14 ?p15 ?p16 ?p17 ?_)
      case p11 => k_asm
      case p12 => k_asm
      case p13 => k_asm
      case p14 => k_asm
      case p15 => assumption
      case p16 => k_asm
      case p17 => exact rfl
      intro h9 tk9 v1 ds1 F9 N9 i9 g9
      try dsimp only
      try k_fold
      (repeat' (first | (k_unfold; (try dsimp only)) | (k_end; wrow_close) | ((fail_if_success (with_reducible show wpAny _ _ (call (Value.ref _) _) _ _ _)); walk1) | ((fail_if_success (show wpAny _ _ (call (Value.ref _) _) _ _ _)); dsimp only; walk1) | (leave1; walk_say "STEP leave1"; try dsimp only) | fail "no step"))
      have hl9 := i9.length
      have hg9 := g9.1
      have hsl := splice_len (l := ns) (ds := ds1) (Nat.le_add_right a0 (k / 2)) hap (by rw [hg9, Nat.add_sub_cancel_left])
      k_dflt (refine' ih (k - k / 2) f3 _ _ _ _ _ _ _ _ _ _ _ _ _ _ _ _ _ _ _ _ _ _ _ _ _ _ (sub_r _) f4 r2.1 (Int.lt_of_le_of_lt r2.2 hx2) (Int.natCast_nonneg _) (splice_ints hints i9 a0 (a0 + k / 2)) ?p7 ?p8 f8 f9 ?p11 ?p12 ?p13 ?p14 ?p15 ?p16 ?p17 ?_)
      case p11 => k_asm
      case p12 => k_asm
      case p13 => k_asm
      case p14 => k_asm
      case p15 => assumption
      case p16 => k_asm
      case p17 => exact rfl
      case p7 => rw [hsl]; exact hhi
      case p8 => rw [hsl]; exact hvs
      intro h8 tk8 v2 ds2 F8 N8 i8 g8
      rw [Int.toNat_natCast, Int.toNat_natCast, splice2 (Nat.le_add_right _ _) (Nat.add_le_add_left (Nat.le_of_lt f1) a0) (by rw [hvl]; exact hkN) (by rw [hl9, hg9, Nat.add_sub_cancel_left])] at N8
      try dsimp only
      try k_fold
      (repeat' (first | (k_unfold; (try dsimp only)) | (k_end; wrow_close) | ((fail_if_success (with_reducible show wpAny _ _ (call (Value.ref _) _) _ _ _)); walk1) | ((fail_if_success (show wpAny _ _ (call (Value.ref _) _) _ _ _)); dsimp only; walk1) | (leave1; walk_say "STEP leave1"; try dsimp only) | fail "no step"))
      exact hret _ _ (v1 ++ v2) (ds1 ++ ds2) (by k_asm) (by k_asm) (IntsAre.append i9 i8) (good_step hx (shift_nat _ _ hn) f5 g9 g8)
  · intro inn
    (repeat' (first | (k_unfold; (try dsimp only)) | (k_end; wrow_close) | ((fail_if_success (with_reducible show wpAny _ _ (call (Value.ref _) _) _ _ _)); walk1) | ((fail_if_success (show wpAny _ _ (call (Value.ref _) _) _ _ _)); dsimp only; walk1) | (leave1; walk_say "STEP leave1"; try dsimp only) | fail "no step"))
    · rename IntsAre _ _ => i1
      have hD1 := D_pos (by assumption) hn hn2 hD
      k_dflt (refine' inn _ _ _ _ _ _ _ _ _ _ _ _ _ _ _ _ _ _ _ _ _ _ _ _ _ _ _ ?p1 ?p2 ?p3 ?p4 ?p5 ?p6 ?p7 ?p8 ?p9 ?p10 ?p11 ?p12 ?p13 ?p14 ?p15 ?p16 ?p17 ?_)
      case p14 => exact news_bring (by k_asm) 2 rfl
      case p11 => k_asm
      case p12 => k_asm
      case p13 => k_asm
      case p16 => k_asm
      case p17 => exact rfl
      case p6 => assumption
      case p1 => exact Int.sub_zero _
      case p2 => omega
      case p3 => omega
      case p4 => omega
      case p5 => omega
      case p7 => omega
      case p8 => omega
      case p9 => show 361 + _ ≤ _; omega
      case p10 => show 63 + _ ≤ _; omega
      case p15 => k_all
      intro h8 tk8 v2 ds2 F8 N8 i8 g8
      have i1l := IntsAre.length i1
      rw [splice_all (by omega)] at N8
      try dsimp only
      try k_fold
      (repeat' (first | (k_unfold; (try dsimp only)) | (k_end; wrow_close) | ((fail_if_success (with_reducible show wpAny _ _ (call (Value.ref _) _) _ _ _)); walk1) | ((fail_if_success (show wpAny _ _ (call (Value.ref _) _) _ _ _)); dsimp only; walk1) | (leave1; walk_say "STEP leave1"; try dsimp only) | fail "no step"))
      have gD : Good n.toNat D x ds2 := good_len g8 (by have := g8.1; omega)
      exact end47 (o := lstO v2) hret (by k_asm) (by k_asm) (by k_slotset) new9 lD.2.2.2.2.2.2 hLD ok1 d1' d2' (fun more => ⟨_, v2, ds2, more, rfl, rfl, i8, by rw [if_neg (by assumption)]; exact gD⟩)
    · have hx0 : x = 0 := by omega
      have hD0 := D_zero hx0 hn hn2 hD
      subst hD0
      exact end47 (o := lstO []) hret (by k_asm) (by k_asm) (by k_slotset) new9 lD.2.2.2.2.2.2 hLD ok1 d1' d2' (fun more => ⟨_, [], [], more, rfl, rfl, .nil, by rw [if_pos hx0]⟩)

end
-- C3
section
theorem fill3 : PySem.Challenge.rw_ij0118_01 = PySem.Challenge.rw_ij0118_01 ∧ hd.heap_1 = hd.heap_1 := by
  k_fill
  exact ⟨rfl, rfl⟩
end
local macro_rules | `(tactic| k_mem) => `(tactic| assumption)
section
noncomputable def DInnerAt (w : World) (loose : List Str) (mean : ExcName → Option Value) (mg mb : Str → Option Value) (n : Int) (ds : List Int) (f c' cA cB cC : Addr) (fo oc oA oB oC : Obj) (l : Addr) (vs : List Value) (e : Nat) (k : Nat) : Prop :=
  ∀ (lo hi : Int) (tl th : Tok) (dp un : Nat) (gd : Option (List Code)) (cn : Str) (cs : Scope) (a : Addr) (ccd : Value) (cl : List (Str × Addr)) (outer : List Env) (A₀ : Around) (base h₀ : Heap) (L : Addr)
    (m : Str → Option Value) (rest : List (Addr × Obj)) (s : Shared) (Q E : Value → Shared → Prop), hi - lo = k → 0 < k → 0 ≤ lo → hi ≤ ds.length → dp + k ≤ 700 → un + 8 * k ≤ 800 →
    Below A₀ base outer h₀ → Fr h₀ L s.heap m → (hd.heap_1 w.params).In h₀ → News h₀ L s.heap ((f, fo) :: (c', oc) :: (cA, oA) :: (cB, oB) :: (cC, oC) :: rest) → (l, listOf vs.toArray e) ∈ rest → Top topProg loose mean mg mb h₀ → cs.kind = .function →
    (∀ h' tk' t, Fr h₀ L h' m → News h₀ L h' ((f, fo) :: (c', oc) :: (cA, oA) :: (cB, oB) :: (cC, oC) :: rest) → Q (.int (dval n.toNat (seg ds lo.toNat hi.toNat)) t) { s with heap := h', toks := tk' }) →
    wpAny (model PySem.Challenge.rw_ij0118_01.row.prog w) (ktrTop dp un gd cn cs L a ccd cl outer) (call (.ref f) [.int lo tl, .int hi th]) Q E s
theorem use_dinner {P : Prop} (w : World) (loose : List Str) (mean : ExcName → Option Value) (mg mb : Str → Option Value) (n : Int) (ds : List Int) (l : Addr) (vs : List Value) (e : Nat) {h₀ h : Heap} {L f c' cA cB cC : Addr} {fo oc oA oB oC : Obj} {r : List (Addr × Obj)}
   (_N : News h₀ L h ((f, fo) :: (c', oc) :: (cA, oA) :: (cB, oB) :: (cC, oC) :: r)) (claim : ∀ k, (∀ j, j < k → DInnerAt w loose mean mg mb n ds f c' cA cB cC fo oc oA oB oC l vs e j) → DInnerAt w loose mean mg mb n ds f c' cA cB cC fo oc oA oB oC l vs e k)
   (cont : (∀ k, DInnerAt w loose mean mg mb n ds f c' cA cB cC fo oc oA oB oC l vs e k) → P) : P := cont fun k => Nat.strongRecOn k claim
theorem digits2int_spec {w loose mean mg mb} (n : Int) (l : Addr) (vs : List Value) (e : Nat) (ds : List Int) (tn : Tok) (hn : 0 < n) (hn2 : n < 4) (hints : IntsAre vs ds) (hlen : ds.length ≤ 8) (hds : ∀ d ∈ ds, 0 ≤ d ∧ d < 2 ^ n.toNat) :
   TS2 w loose mean mg mb 360 60 59 (fun rest => (l, listOf vs.toArray e) ∈ rest) [.ref l, .int n tn] (fun add r => ∃ t, r = .int (dval n.toNat ds) t) := by
  intro dp un gd cn cs a ccd cl outer A₀ base h₀ L m t1 t2 rest K s Q E hdp hun B F X N T hk cd1 cd2 hne hL ok1 ok2 hK hlm hret
  refine around_le (A' := ktrTop 360 60 gd cn cs L a ccd cl outer) rfl hdp rfl rfl hun ?_
  obtain ⟨k, nm, g, c, mo⟩ := cs
  subst hk
  walk1
  have hLL := frame_lt (h₀ := h₀) (L := L) (m := m) (by assumption) (by assumption)
  iterate 1 (first | (k_unfold; (try dsimp only)) | walk1 | (dsimp only; walk1) | (leave1; walk_say "STEP leave1"; try dsimp only))
  refine nestDef_K rfl rfl rfl ?_
  refine nest_any (P := 54) (c := 58) (rs := K) ?hs (by k_asm) (by k_asm) (by k_asm) (CodeHd.keeps cd1 (Below.stays (by assumption))) rfl (by k_updF) ?_ rfl ?_
  case hs => intro p hp; simp [hK p hp]
  · exact ok1
  intro f' c' oc' vs' tq' ct' dc' h' tk' F' N' d1' d2' new' l1 l2
  try dsimp only at N'
  try k_lt l1
  try k_lt2 l2
  have new9 : (c', oc') ∈ K ∨ (L < c' ∧ ∀ q ∈ rest, q.1 < c') := new'.imp_right fun h => ⟨Nat.lt_trans hLL (Nat.lt_of_succ_lt (h _ (mem_t (mem_t mem_h)))), fun q hq => h q (mem_t (mem_t (mem_t (mem_t (mem_t hq)))))⟩
  clear new'
  iterate 1 (first | (k_unfold; (try dsimp only)) | walk1 | (dsimp only; walk1) | (leave1; walk_say "STEP leave1"; try dsimp only))
  k_dflt (refine use_dinner w loose mean mg mb n ds l vs e (by k_asm) ?_ ?_)
  · have hlen0 := hlen
    intro k ih lo hi tl th dp un gd cn cs a ccd cl outer A₀ base h₀ L m rest s Q E hlen hk hlo hhi hdp hun B F X N hlm T hcs hret
    obtain ⟨a0, rfl⟩ := Int.eq_ofNat_of_zero_le hlo
    obtain rfl := hi_eq hlen
    obtain ⟨hS0, hS1, hS2, hS3⟩ := shiftN (k := k) a0 hhi (Nat.le_trans hlen0 (by decide)) hn hn2
    have hkN : a0 + k ≤ ds.length := Int.ofNat_le.mp hhi
    clear hlen hlo
    have hvl := hints.length
    refine wpAny_call ?_
    k_dflt (refine' code_nest ?k1 ?k2 ?k3 ?k4 ?k5 ?kA ?kF ?kK ?k6 ?k7 ?k8 ?k9 ?kB ?_ ?c2 ?c3 ?c4 ?c5; (case kA => exact rfl); (case kF => exact rfl); (case kK => exact hcs); (case k1 => k_asm); (case k2 => k_asm); (case k3 => k_asm); (case k4 => k_asm); (case k5 => k_asm); (case k6 => k_mem); (case k7 => exact codeRec_news (by k_asm) (by k_mem) (by assumption) (by assumption)); (case k8 => show dp < recursionLimit; have : recursionLimit = 1000 := rfl; omega); (case k9 => exact BindsTo.of_eq rfl); (case c5 => decide); (case kB => exact locs rfl); (case c2 => exact rfl); (case c3 => exact rfl); (case c4 => exact rfl))
    intro g' L' h' FG' F' N' B' X' T'
    try dsimp only
    try k_lift B'
    try k_fold
    (repeat' (first | (k_unfold; (try dsimp only)) | (k_end; wrow_close) | ((fail_if_success (with_reducible show wpAny _ _ (call (Value.ref _) _) _ _ _)); walk1) | ((fail_if_success (show wpAny _ _ (call (Value.ref _) _) _ _ _)); dsimp only; walk1) | (leave1; walk_say "STEP leave1"; try dsimp only) | fail "no step"))
    · obtain rfl := one_of (by assumption)
      have e9 : dval n.toNat (seg ds (a0 : Int).toNat ((a0 + 1 : Nat) : Int).toNat) = ds.getD (a0 : Int).toNat 0 := seg_one hkN _
      rw [← e9]
      exact hret _ _ _ (by k_asm) (by k_asm)
    · have hsm : ∀ i j : Nat, j ≤ ds.length → 0 ≤ dval n.toNat (seg ds i j) ∧ dval n.toNat (seg ds i j) < 16777216 := fun i j hj => seg_small hn hn2 hds hlen0 i j
      rw [half_nat] at *
      obtain ⟨f1, f2, f3, f4, f5, f6, f7, f8, f9⟩ := halfF (ne_one (by assumption)) hk hdp hun
      have hap : a0 + k / 2 ≤ ds.length := Nat.le_trans (Nat.add_le_add_left (Nat.le_of_lt f1) a0) hkN
      have hA := hsm ((a0 + k / 2 : Nat) : Int).toNat ((a0 + k : Nat) : Int).toNat hkN
      have hB := hsm (a0 : Int).toNat ((a0 + k / 2 : Nat) : Int).toNat hap
      k_dflt (refine' ih (k - k / 2) f3 _ _ _ _ _ _ _ _ _ _ _ _ _ _ _ _ _ _ _ _ _ _ (sub_r _) f4 (Int.natCast_nonneg _) hhi f8 f9 ?p7 ?p8 ?p9 ?p10 ?p11 ?p12 ?p13 ?_)
      case p7 => k_asm
      case p8 => k_asm
      case p9 => k_asm
      case p10 => k_asm
      case p11 => assumption
      case p12 => k_asm
      case p13 => exact rfl
      intro h9 tk9 t9 F9 N9
      try dsimp only
      try k_fold
      (repeat' (first | (k_unfold; (try dsimp only)) | (k_end; wrow_close) | ((fail_if_success (with_reducible show wpAny _ _ (call (Value.ref _) _) _ _ _)); walk1) | ((fail_if_success (show wpAny _ _ (call (Value.ref _) _) _ _ _)); dsimp only; walk1) | (leave1; walk_say "STEP leave1"; try dsimp only) | fail "no step"))
      k_dflt (refine' ih (k / 2) f1 _ _ _ _ _ _ _ _ _ _ _ _ _ _ _ _ _ _ _ _ _ _ (sub_l _ _) f2 (Int.natCast_nonneg _) (Int.ofNat_le.mpr hap) f6 f7 ?p7 ?p8 ?p9 ?p10 ?p11 ?p12 ?p13 ?_)
      case p7 => k_asm
      case p8 => k_asm
      case p9 => k_asm
      case p10 => k_asm
      case p11 => assumption
      case p12 => k_asm
      case p13 => exact rfl
      intro h8 tk8 t8 F8 N8
      try dsimp only
      try k_fold
      (repeat' (first | (k_unfold; (try dsimp only)) | (k_end; wrow_close) | ((fail_if_success (with_reducible show wpAny _ _ (call (Value.ref _) _) _ _ _)); walk1) | ((fail_if_success (show wpAny _ _ (call (Value.ref _) _) _ _ _)); dsimp only; walk1) | (leave1; walk_say "STEP leave1"; try dsimp only) | fail "no step"))
      have e2 : dval n.toNat (seg ds (a0 : Int).toNat ((a0 + k : Nat) : Int).toNat) = dval n.toNat (seg ds ((a0 + k / 2 : Nat) : Int).toNat ((a0 + k : Nat) : Int).toNat) * 2 ^ ((((a0 + k / 2 : Nat) : Int) - (a0 : Int)) * n).toNat + dval n.toNat (seg ds (a0 : Int).toNat ((a0 + k / 2 : Nat) : Int).toNat) := by
        rw [shift_nat _ _ hn]
        exact seg_halves (Nat.le_of_lt f1) hkN
      rw [e2] at hret
      exact hret _ _ _ (by k_asm) (by k_asm)
  · intro inn
    (repeat' (first | (k_unfold; (try dsimp only)) | (k_end; wrow_close) | ((fail_if_success (with_reducible show wpAny _ _ (call (Value.ref _) _) _ _ _)); walk1) | ((fail_if_success (show wpAny _ _ (call (Value.ref _) _) _ _ _)); dsimp only; walk1) | (leave1; walk_say "STEP leave1"; try dsimp only) | fail "no step"))
    have hvl := hints.length
    refine wpAny_truthy_list (News.isList (by k_asm) (List.mem_append_right [_, _, _, _, _, _, _] hlm)) (by simp; omega) ?_
    try dsimp only
    cases hints with
    | nil =>
      refine ite_neg (by simp) ?_
      (repeat' (first | (k_unfold; (try dsimp only)) | (k_end; wrow_close) | ((fail_if_success (with_reducible show wpAny _ _ (call (Value.ref _) _) _ _ _)); walk1) | ((fail_if_success (show wpAny _ _ (call (Value.ref _) _) _ _ _)); dsimp only; walk1) | (leave1; walk_say "STEP leave1"; try dsimp only) | fail "no step"))
      exact end54 hret (by k_asm) (by k_asm) (by k_slotset) new9 ok2 d1' d2' (fun _ => ⟨_, rfl⟩)
    | @cons d td vs9 ns9 hr =>
      have hv2 := hvl
      simp only [List.length_cons] at hv2 hlen
      refine ite_pos (by simp) ?_
      (repeat' (first | (k_unfold; (try dsimp only)) | (k_end; wrow_close) | ((fail_if_success (with_reducible show wpAny _ _ (call (Value.ref _) _) _ _ _)); walk1) | ((fail_if_success (show wpAny _ _ (call (Value.ref _) _) _ _ _)); dsimp only; walk1) | (leave1; walk_say "STEP leave1"; try dsimp only) | fail "no step"))
      refine Calls.call_len_list (News.isList (by k_asm) (List.mem_append_right [_, _, _, _, _, _, _] hlm)) (by simp; omega) ?_
      try dsimp only
      (repeat' (first | (k_unfold; (try dsimp only)) | (k_end; wrow_close) | ((fail_if_success (with_reducible show wpAny _ _ (call (Value.ref _) _) _ _ _)); walk1) | ((fail_if_success (show wpAny _ _ (call (Value.ref _) _) _ _ _)); dsimp only; walk1) | (leave1; walk_say "STEP leave1"; try dsimp only) | fail "no step"))
      k_dflt (refine' inn _ _ _ _ _ _ _ _ _ _ _ _ _ _ _ _ _ _ _ _ _ _ _ ?p1 ?p2 ?p3 ?p4 ?p5 ?p6 ?p7 ?p8 ?p9 ?p10 ?p11 ?p12 ?p13 ?_)
      case p7 => k_asm
      case p8 => k_asm
      case p9 => k_asm
      case p10 => k_asm
      case p11 => exact List.mem_append_right [_, _] hlm
      case p12 => k_asm
      case p13 => exact rfl
      case p1 => exact Int.sub_zero _
      case p2 => simp
      case p3 => omega
      case p4 => simp; omega
      case p5 => show 361 + _ ≤ _; simp; omega
      case p6 => show 63 + _ ≤ _; simp; omega
      intro h8 tk8 t8 F8 N8
      try dsimp only
      try k_fold
      (repeat' (first | (k_unfold; (try dsimp only)) | (k_end; wrow_close) | ((fail_if_success (with_reducible show wpAny _ _ (call (Value.ref _) _) _ _ _)); walk1) | ((fail_if_success (show wpAny _ _ (call (Value.ref _) _) _ _ _)); dsimp only; walk1) | (leave1; walk_say "STEP leave1"; try dsimp only) | fail "no step"))
      have e3 : dval n.toNat (seg (d :: ns9) (Int.toNat 0) (Int.toNat (((Value.int d td :: vs9).toArray.size : Nat) : Int))) = dval n.toNat (d :: ns9) := by
        rw [show (Int.toNat 0) = 0 from rfl, Int.toNat_natCast, List.size_toArray, hvl, seg_all]
      rw [e3]
      exact end54 hret (by k_asm) (by k_asm) (by k_slotset) new9 ok2 d1' d2' (fun _ => ⟨_, rfl⟩)

end
-- C4
section
theorem fill4 : PySem.Challenge.rw_ij0118_01 = PySem.Challenge.rw_ij0118_01 ∧ hd.heap_1 = hd.heap_1 := by
  k_fill
  exact ⟨rfl, rfl⟩
end
local macro_rules | `(tactic| walk_at "eval Name") => `(tactic| first | (k_here; (with_reducible show wpAny _ _ (eval (Expr.Name _ _) (compEnvC _ _ _ _)) _ _ _); (refine ldVarK (by with_reducible assumption) (by with_reducible assumption) ?_)) | (k_here; (k_dflt refine' nameX_L ?F ?v ?_ ?a ?b); (case F => k_asm); (case a => k_dflt rfl); (case b => k_dflt rfl); (case v => (repeat (first | (with_reducible assumption) | ((with_reducible apply ifn_hit); (k_dflt decide)) | ((with_reducible apply ifn_skip); (k_dflt decide)) | (k_dflt exact rfl)))); k_whole))
section
inductive InvD (x b : Int) (n : Nat) (lq : Addr) (led : List (Addr × Obj)) (r : List Value) (m : Str → Option Value) (news : List (Addr × Obj)) : Prop
  | mk : ∀ (rs qs : List Int) (qv : List Value) (r0 : Int) (tr tb tn : Tok) (e : Nat), (IntsAre r rs) → ((∀ d ∈ rs, 0 ≤ d ∧ d < 2 ^ n)) → (IntsAre qv qs) → ((∀ q ∈ qs, 0 ≤ q ∧ q < 2 ^ n)) → (0 ≤ r0) → (r0 < b) → (qs.length + rs.length ≤ 8) → (tval n rs (b * tval n qs 0 + r0) = x) → (m (Str.ofString "b") = some (.int b tb)) → (m (Str.ofString "n") = some (.int (n : Int) tn)) → (m (Str.ofString "q_digits") = some (.ref lq)) → (m (Str.ofString "r") = some (.int r0 tr)) → (news = (lq, listOf qv.toArray e) :: led) → InvD x b n lq led r m news
theorem divmod_pos_spec {w loose mean mg mb} (x b : Int) (tx tb : Tok) (hx : 0 ≤ x) (hx2 : x < 256) (hb : 0 < b) (hb2 : b < 5) :
   TS2 w loose mean mg mb 355 55 66 (fun _ => True) [.int x tx, .int b tb] (fun add r => ∃ l t1 t2 more, r = .ref l ∧ add = (l, tupO [.int (x.fdiv b) t1, .int (x.fmod b) t2]) :: more) := by
  intro dp un gd cn cs a ccd cl outer A₀ base h₀ L m t1 t2 rest K s Q E hdp hun B F X N T hk cd1 cd2 hne hL ok1 ok2 hK _ hret
  refine around_le (A' := ktrTop 355 55 gd cn cs L a ccd cl outer) rfl hdp rfl rfl hun ?_
  obtain ⟨k, nm, g, c, mo⟩ := cs
  subst hk
  have hL1 := ltN hL
  walk1
  have hLL := frame_lt (h₀ := h₀) (L := L) (m := m) (by assumption) (by assumption)
  obtain ⟨hn, hn2, hbn⟩ := bits_b hb hb2
  obtain ⟨D, hD, hD2, hxD⟩ := D_of hx hx2 hn hn2
  (repeat' (first | (k_unfold; (try dsimp only)) | ((with_reducible show wpAny _ _ (call (Value.builtin "list.reverse") _) _ _ _); (first | with_reducible ((k_here; (with_reducible show wpAny _ _ (call (Value.builtin _) [Value.ref _]) _ _ _); k_dflt (refine' rev_K ?F ?N ?U ?z ?_; (case F => k_asm); (case N => k_asm); (case U => k_upd); (case z => omega)); intro _ _ _; (try k_sweep))) | ((k_here; (with_reducible show wpAny _ _ (call (Value.builtin _) [Value.ref _]) _ _ _); k_dflt (refine' rev_K ?F ?N ?U ?z ?_; (case F => k_asm); (case N => k_asm); (case U => k_upd); (case z => omega)); intro _ _ _; (try k_sweep))))) | ((with_reducible show wpAny _ _ (call (Value.builtin "list.append") _) _ _ _); (first | with_reducible ((k_here; (with_reducible show wpAny _ _ (call (Value.builtin _) [Value.ref _, _]) _ _ _); k_dflt (refine' app_K (by k_asm) (by k_asm) (by k_upd) (by first | with_reducible assumption | omega | assumption) ?_); intro _ _ _; (try k_sweep))) | ((k_here; (with_reducible show wpAny _ _ (call (Value.builtin _) [Value.ref _, _]) _ _ _); k_dflt (refine' app_K (by k_asm) (by k_asm) (by k_upd) (by first | with_reducible assumption | omega | assumption) ?_); intro _ _ _; (try k_sweep))))) | (k_end; wrow_close) | ((fail_if_success (with_reducible show wpAny _ _ (call (Value.ref _) _) _ _ _)); walk1) | ((fail_if_success (show wpAny _ _ (call (Value.ref _) _) _ _ _)); dsimp only; walk1) | (leave1; walk_say "STEP leave1"; try dsimp only) | fail "no step"))
  k_dflt (refine' int2digits_spec x (Builtin.Int.intBits b) D tx _ hx (by omega) hn hn2 hD (by omega) _ _ _ _ _ _ _ _ _ _ _ _ _ _ _ _ _ _ _ _ _ ?le1 ?le2 ?B ?F ?X ?N ?T ?k ?c1 ?c2 ?ne ?hL ?ok1 ?ok2 ?hK trivial ?_)
  case B => k_asm
  case F => k_asm
  case X => k_asm
  case N => k_asm
  case T => k_asm
  case k => exact rfl
  case c1 => assumption
  case c2 => assumption
  case ne => assumption
  case hL => exact Nat.lt_trans hL hLL
  case ok1 => assumption
  case ok2 => assumption
  case hK => assumption
  case le1 => show 356 ≤ 360; decide
  case le2 => show 58 ≤ 60; decide
  intro r9 add9 t1' t2' h9 tk9 F9 N9 lt9 gt9 ok1' ok2' res9
  obtain ⟨l9, vs9, ds9, more9, rfl, rfl, i9, g9⟩ := res9
  simp only [List.cons_append] at N9
  try dsimp only
  try k_fold
  (repeat' (first | (k_unfold; (try dsimp only)) | ((with_reducible show wpAny _ _ (call (Value.builtin "list.reverse") _) _ _ _); (first | with_reducible ((k_here; (with_reducible show wpAny _ _ (call (Value.builtin _) [Value.ref _]) _ _ _); k_dflt (refine' rev_K ?F ?N ?U ?z ?_; (case F => k_asm); (case N => k_asm); (case U => k_upd); (case z => omega)); intro _ _ _; (try k_sweep))) | ((k_here; (with_reducible show wpAny _ _ (call (Value.builtin _) [Value.ref _]) _ _ _); k_dflt (refine' rev_K ?F ?N ?U ?z ?_; (case F => k_asm); (case N => k_asm); (case U => k_upd); (case z => omega)); intro _ _ _; (try k_sweep))))) | ((with_reducible show wpAny _ _ (call (Value.builtin "list.append") _) _ _ _); (first | with_reducible ((k_here; (with_reducible show wpAny _ _ (call (Value.builtin _) [Value.ref _, _]) _ _ _); k_dflt (refine' app_K (by k_asm) (by k_asm) (by k_upd) (by first | with_reducible assumption | omega | assumption) ?_); intro _ _ _; (try k_sweep))) | ((k_here; (with_reducible show wpAny _ _ (call (Value.builtin _) [Value.ref _, _]) _ _ _); k_dflt (refine' app_K (by k_asm) (by k_asm) (by k_upd) (by first | with_reducible assumption | omega | assumption) ?_); intro _ _ _; (try k_sweep))))) | (k_end; wrow_close) | ((fail_if_success (with_reducible show wpAny _ _ (call (Value.ref _) _) _ _ _)); walk1) | ((fail_if_success (show wpAny _ _ (call (Value.ref _) _) _ _ _)); dsimp only; walk1) | (leave1; walk_say "STEP leave1"; try dsimp only) | fail "no step"))
  rename_i lq hq2 l1q hq1 Dq hq0 Fq Nq l1d
  have hgd : (∀ d ∈ ds9, 0 ≤ d ∧ d < 2 ^ Builtin.Int.intBits b) ∧ ds9.length ≤ 8 ∧ dval (Builtin.Int.intBits b) ds9 = x := by
    by_cases h0 : x = 0
    · rw [if_pos h0] at g9; subst g9; subst h0; exact ⟨(fun _ h => nomatch h), (by simp), rfl⟩
    · rw [if_neg h0] at g9
      rw [Int.toNat_natCast] at g9 hxD
      exact ⟨fun d hd => ⟨g9.2.1 d hd, g9.2.2.2 hxD d hd⟩, by rw [g9.1]; exact hD2, g9.2.2.1⟩
  refine iter_revUnr (lo := lstO vs9) (vs := vs9) (n := 0) rfl Fq Nq (offI_of (by k_all)) (by k_mem) rfl rfl ?_
  refine rev_induct (InvD x b (Builtin.Int.intBits b) lq ((54, t1') :: (47, t2') :: (l9, lstO vs9) :: (more9 ++ rest))) ?_ ?_ _ _ _ ?_
  rotate_left 2
  · refine ⟨ds9.reverse, [], [], 0, _, tb, _, 0, ?_, ?_, .nil, (fun _ h => nomatch h), by omega, hb, ?_, ?_, rfl, rfl, rfl, rfl, rfl⟩
    · exact i9.reverse
    · intro d hd; exact hgd.1 d (List.mem_reverse.mp hd)
    · simp; exact hgd.2.1
    · show tval _ _ (b * 0 + 0) = x
      rw [Int.mul_zero, Int.add_zero, tval_rev]; exact hgd.2.2
  · rintro m9 news9 ⟨rs, qs, qv, r0, tr, tb', tn', e, ir, hrs, iq, hqs, hr0, hr1, hlen, hval, hmb, hmn, hmq, hmr, rfl⟩ h8 tk8 F8 N8
    cases ir
    have hqv := iq.length
    simp only [List.length_nil] at hlen
    try dsimp only
    try k_fold
    (repeat' (first | (k_unfold; (try dsimp only)) | ((with_reducible show wpAny _ _ (call (Value.builtin "list.reverse") _) _ _ _); (first | with_reducible ((k_here; (with_reducible show wpAny _ _ (call (Value.builtin _) [Value.ref _]) _ _ _); k_dflt (refine' rev_K ?F ?N ?U ?z ?_; (case F => k_asm); (case N => k_asm); (case U => k_upd); (case z => omega)); intro _ _ _; (try k_sweep))) | ((k_here; (with_reducible show wpAny _ _ (call (Value.builtin _) [Value.ref _]) _ _ _); k_dflt (refine' rev_K ?F ?N ?U ?z ?_; (case F => k_asm); (case N => k_asm); (case U => k_upd); (case z => omega)); intro _ _ _; (try k_sweep))))) | ((with_reducible show wpAny _ _ (call (Value.builtin "list.append") _) _ _ _); (first | with_reducible ((k_here; (with_reducible show wpAny _ _ (call (Value.builtin _) [Value.ref _, _]) _ _ _); k_dflt (refine' app_K (by k_asm) (by k_asm) (by k_upd) (by first | with_reducible assumption | omega | assumption) ?_); intro _ _ _; (try k_sweep))) | ((k_here; (with_reducible show wpAny _ _ (call (Value.builtin _) [Value.ref _, _]) _ _ _); k_dflt (refine' app_K (by k_asm) (by k_asm) (by k_upd) (by first | with_reducible assumption | omega | assumption) ?_); intro _ _ _; (try k_sweep))))) | (k_end; wrow_close) | ((fail_if_success (with_reducible show wpAny _ _ (call (Value.ref _) _) _ _ _)); walk1) | ((fail_if_success (show wpAny _ _ (call (Value.ref _) _) _ _ _)); dsimp only; walk1) | (leave1; walk_say "STEP leave1"; try dsimp only) | fail "no step"))
    have hqr := iq.reverse
    have hfar : ∀ p ∈ (lq, listOf qv.reverse.toArray e) :: (l9, lstO vs9) :: (more9 ++ rest), p.1 ≠ 54 ∧ p.1 ≠ 47 := by
      intro p hp
      simp only [List.mem_cons, List.mem_append] at hp
      rcases hp with rfl | rfl | hp | hp
      · constructor <;> (refine neN ?_; dsimp only; omega)
      · have := ltN (gt9 _ (.head _)); constructor <;> (refine neN ?_; dsimp only at this ⊢; omega)
      · have := ltN (gt9 _ (.tail _ hp)); constructor <;> (refine neN ?_; omega)
      · exact hne p hp
    k_dflt (refine' digits2int_spec (Builtin.Int.intBits b) lq qv.reverse e qs.reverse _ hn hn2 hqr ?z1 ?z2 _ _ _ _ _ _ _ _ _ _ _ _ _ _ _ _ _ _ _ _ _ ?le1 ?le2 ?B ?F ?X ?N ?T ?k ?c1 ?c2 ?ne ?hL ?ok1 ?ok2 ?hK ?pre ?_)
    case B => k_asm
    case F => k_asm
    case X => k_asm
    case N => exact news_bring (news_bring (by k_asm) 2 rfl) 2 rfl
    case T => k_asm
    case k => exact rfl
    case c1 => assumption
    case c2 => assumption
    case ne => exact hfar
    case hL => exact Nat.lt_trans hL hLL
    case ok1 => exact ok1'
    case ok2 => exact ok2'
    case hK =>
      intro p hp
      simp only [List.eraseIdx_cons_succ, List.eraseIdx_cons_zero, List.cons_append, List.mem_cons, List.mem_append] at hp ⊢
      rcases hp with hp | hp | hp
      · exact .inr (.inl hp)
      · exact .inr (.inr (.inl hp))
      · exact .inr (.inr (.inr (hK p hp)))
    case pre => exact .head _
    case le1 => show 356 ≤ 360; decide
    case le2 => show 58 ≤ 60; decide
    case z1 => rw [List.length_reverse]; omega
    case z2 => intro d hd; rw [Int.toNat_natCast]; exact hqs d (List.mem_reverse.mp hd)
    intro r7 add7 t17 t27 h7 tk7 F7 N7 lt7 gt7 ok17 ok27 res7
    obtain ⟨tq7, rfl⟩ := res7
    simp only [List.eraseIdx_cons_succ, List.eraseIdx_cons_zero] at N7 lt7 ok17 ok27
    try dsimp only
    try k_fold
    (repeat' (first | (k_unfold; (try dsimp only)) | ((with_reducible show wpAny _ _ (call (Value.builtin "list.reverse") _) _ _ _); (first | with_reducible ((k_here; (with_reducible show wpAny _ _ (call (Value.builtin _) [Value.ref _]) _ _ _); k_dflt (refine' rev_K ?F ?N ?U ?z ?_; (case F => k_asm); (case N => k_asm); (case U => k_upd); (case z => omega)); intro _ _ _; (try k_sweep))) | ((k_here; (with_reducible show wpAny _ _ (call (Value.builtin _) [Value.ref _]) _ _ _); k_dflt (refine' rev_K ?F ?N ?U ?z ?_; (case F => k_asm); (case N => k_asm); (case U => k_upd); (case z => omega)); intro _ _ _; (try k_sweep))))) | ((with_reducible show wpAny _ _ (call (Value.builtin "list.append") _) _ _ _); (first | with_reducible ((k_here; (with_reducible show wpAny _ _ (call (Value.builtin _) [Value.ref _, _]) _ _ _); k_dflt (refine' app_K (by k_asm) (by k_asm) (by k_upd) (by first | with_reducible assumption | omega | assumption) ?_); intro _ _ _; (try k_sweep))) | ((k_here; (with_reducible show wpAny _ _ (call (Value.builtin _) [Value.ref _, _]) _ _ _); k_dflt (refine' app_K (by k_asm) (by k_asm) (by k_upd) (by first | with_reducible assumption | omega | assumption) ?_); intro _ _ _; (try k_sweep))))) | (k_end; wrow_close) | ((fail_if_success (with_reducible show wpAny _ _ (call (Value.ref _) _) _ _ _)); walk1) | ((fail_if_success (show wpAny _ _ (call (Value.ref _) _) _ _ _)); dsimp only; walk1) | (leave1; walk_say "STEP leave1"; try dsimp only) | fail "no step"))
    rename_i Dt ht Ft Nt lt1 _ _ _ _
    have hval' : b * tval (Builtin.Int.intBits b) qs 0 + r0 = x := hval
    obtain ⟨hq9, hr9⟩ := div_end hb hval' hr0 hr1
    rw [hq9, hr9] at hret
    have hqe : dval ((Builtin.Int.intBits b : Int)).toNat qs.reverse = tval (Builtin.Int.intBits b) qs 0 := by rw [Int.toNat_natCast, dval_rev]
    rw [← hqe] at hret
    refine hret _ ((Dt, tupO [.int (dval ((Builtin.Int.intBits b : Int)).toNat qs.reverse) tq7, .int r0 tr]) :: (add7 ++ (lq, listOf qv.reverse.toArray e) :: (l9, lstO vs9) :: more9)) t17 t27 _ _ (by k_asm) (news_perm (by k_asm) ?_) ?_ ?_ ?_ ?_ ⟨_, _, _, _, rfl, rfl⟩
    · k_slotset
    · intro p hp q hq
      simp only [List.mem_cons, List.mem_append] at hp
      rcases hp with rfl | hp | rfl | rfl | hp
      · exact allLt_all lt1.2.2 q (by k_data)
      · exact lt7 p hp q (by k_data)
      · exact allLt_all l1q.2.2.2 q (by k_data)
      · exact lt9 _ (.head _) q hq
      · exact lt9 _ (.tail _ hp) q hq
    · intro p hp
      have hlqt := allLt_all lt1.2.2 (lq, listOf qv.reverse.toArray e) (by k_data)
      have hL9 := Nat.lt_trans hLL (gt9 _ (.head _))
      have hLq := Nat.lt_trans hL9 l1q.2.2.1
      simp only [List.mem_cons, List.mem_append] at hp
      rcases hp with rfl | hp | rfl | rfl | hp
      · exact Nat.lt_trans hLq hlqt
      · exact Nat.lt_trans hLL (gt7 p hp)
      · exact hLq
      · exact hL9
      · exact Nat.lt_trans hLL (gt9 p (.tail _ hp))
    · exact ok17.mono (by k_slotset)
    · exact ok27.mono (by k_slotset)
  · rintro v r m9 news9 ⟨rs, qs, qv, r0, tr, tb', tn', e, ir, hrs, iq, hqs, hr0, hr1, hlen, hval, hmb, hmn, hmq, hmr, rfl⟩ it h8 tk8 hit F8 N8
    cases ir with
    | @cons d td _ rs' ir =>
    have hqv := iq.length
    simp only [List.length_cons] at hlen
    obtain ⟨e1, e2, e3, e4, e5, e6⟩ := div_step (n := Builtin.Int.intBits b) hb hr0 hr1 (hrs d (.head _)).1 (hrs d (.head _)).2
    try dsimp only
    try k_fold
    (repeat' (first | (k_unfold; (try dsimp only)) | ((with_reducible show wpAny _ _ (call (Value.builtin "list.reverse") _) _ _ _); (first | with_reducible ((k_here; (with_reducible show wpAny _ _ (call (Value.builtin _) [Value.ref _]) _ _ _); k_dflt (refine' rev_K ?F ?N ?U ?z ?_; (case F => k_asm); (case N => k_asm); (case U => k_upd); (case z => omega)); intro _ _ _; (try k_sweep))) | ((k_here; (with_reducible show wpAny _ _ (call (Value.builtin _) [Value.ref _]) _ _ _); k_dflt (refine' rev_K ?F ?N ?U ?z ?_; (case F => k_asm); (case N => k_asm); (case U => k_upd); (case z => omega)); intro _ _ _; (try k_sweep))))) | ((with_reducible show wpAny _ _ (call (Value.builtin "list.append") _) _ _ _); (first | with_reducible ((k_here; (with_reducible show wpAny _ _ (call (Value.builtin _) [Value.ref _, _]) _ _ _); k_dflt (refine' app_K (by k_asm) (by k_asm) (by k_upd) (by first | with_reducible assumption | omega | assumption) ?_); intro _ _ _; (try k_sweep))) | ((k_here; (with_reducible show wpAny _ _ (call (Value.builtin _) [Value.ref _, _]) _ _ _); k_dflt (refine' app_K (by k_asm) (by k_asm) (by k_upd) (by first | with_reducible assumption | omega | assumption) ?_); intro _ _ _; (try k_sweep))))) | (k_end; wrow_close) | ((fail_if_success (with_reducible show wpAny _ _ (call (Value.ref _) _) _ _ _)); walk1) | ((fail_if_success (show wpAny _ _ (call (Value.ref _) _) _ _ _)); dsimp only; walk1) | (leave1; walk_say "STEP leave1"; try dsimp only) | fail "no step"))
    have h8 : (2 : Int) ^ Builtin.Int.intBits b ≤ 8 := by
      have := four_b hb hb2
      rcases this with rfl | rfl | rfl | rfl <;> decide +kernel
    have h8' : b * 2 ^ Builtin.Int.intBits b ≤ 4 * 8 := Int.mul_le_mul (by omega) h8 (Int.le_of_lt (Int.pow_pos (by decide))) (by omega)
    k_dflt (refine' div2n1n_spec _ b (Builtin.Int.intBits b) _ _ _ ?z1 ?z2 hb hb2 ?z3 _ _ _ _ _ _ _ _ _ _ _ _ _ _ _ _ _ _ ?le1 ?le2 ?B ?F ?X ?N ?T ?k trivial ?_)
    case B => k_asm
    case F => k_asm
    case X => k_asm
    case N => k_asm
    case T => k_asm
    case k => exact rfl
    case le1 => show 356 ≤ 360; decide
    case le2 => show 58 ≤ 60; decide
    case z1 => rw [Int.toNat_natCast]; exact e5
    case z2 => rw [Int.toNat_natCast]; omega
    case z3 => omega
    intro r7 add7 h7 tk7 F7 N7 lt7 res7
    obtain ⟨l7, t17, t27, rfl, rfl⟩ := res7
    have lt7' := lt7 _ (.head _)
    k_lt lt7'
    simp only [List.cons_append, List.nil_append] at N7
    try dsimp only
    try k_fold
    (repeat' (first | (k_unfold; (try dsimp only)) | ((with_reducible show wpAny _ _ (call (Value.builtin "list.reverse") _) _ _ _); (first | with_reducible ((k_here; (with_reducible show wpAny _ _ (call (Value.builtin _) [Value.ref _]) _ _ _); k_dflt (refine' rev_K ?F ?N ?U ?z ?_; (case F => k_asm); (case N => k_asm); (case U => k_upd); (case z => omega)); intro _ _ _; (try k_sweep))) | ((k_here; (with_reducible show wpAny _ _ (call (Value.builtin _) [Value.ref _]) _ _ _); k_dflt (refine' rev_K ?F ?N ?U ?z ?_; (case F => k_asm); (case N => k_asm); (case U => k_upd); (case z => omega)); intro _ _ _; (try k_sweep))))) | ((with_reducible show wpAny _ _ (call (Value.builtin "list.append") _) _ _ _); (first | with_reducible ((k_here; (with_reducible show wpAny _ _ (call (Value.builtin _) [Value.ref _, _]) _ _ _); k_dflt (refine' app_K (by k_asm) (by k_asm) (by k_upd) (by first | with_reducible assumption | omega | assumption) ?_); intro _ _ _; (try k_sweep))) | ((k_here; (with_reducible show wpAny _ _ (call (Value.builtin _) [Value.ref _, _]) _ _ _); k_dflt (refine' app_K (by k_asm) (by k_asm) (by k_upd) (by first | with_reducible assumption | omega | assumption) ?_); intro _ _ _; (try k_sweep))))) | (k_end; wrow_close) | ((fail_if_success (with_reducible show wpAny _ _ (call (Value.ref _) _) _ _ _)); walk1) | ((fail_if_success (show wpAny _ _ (call (Value.ref _) _) _ _ _)); dsimp only; walk1) | (leave1; walk_say "STEP leave1"; try dsimp only) | fail "no step"))
    k_dflt (refine' UnrEnd.intro ?F ?N ((lq, listOf (List.toArray (qv ++ [Value.int ((r0 * 2 ^ ((Builtin.Int.intBits b : Int)).toNat + d).fdiv b) t17])) (e + 1)) :: (54, t1') :: (47, t2') :: (l9, lstO vs9) :: (more9 ++ rest)) ?sub ?off ?inv)
    case F => k_asm
    case N => k_asm
    case sub => k_slotset
    case off => k_all
    refine ⟨by simp, rs', qs ++ [(r0 * 2 ^ Builtin.Int.intBits b + d).fdiv b], _, (r0 * 2 ^ Builtin.Int.intBits b + d).fmod b, t27, tb', tn', e + 1, ir, (fun z hz => hrs z (.tail _ hz)), ?_, ?_, e3, e4, ?_, ?_, hmb, hmn, hmq, ?_, rfl⟩
    · rw [Int.toNat_natCast]; exact IntsAre.append iq (.cons _ _ .nil)
    · intro z hz
      rcases List.mem_append.mp hz with hz | hz
      · exact hqs z hz
      · rw [List.mem_singleton.mp hz]; exact ⟨e1, e2⟩
    · simp; omega
    · rw [tval_append]
      show tval _ rs' (b * (tval _ qs 0 * 2 ^ _ + _) + _) = x
      rw [div_keep hb]; exact hval
    · rw [Int.toNat_natCast]; rfl

end
-- C5
section
theorem fill5 : PySem.Challenge.rw_ij0118_01 = PySem.Challenge.rw_ij0118_01 ∧ hd.heap_1 = hd.heap_1 := by
  k_fill
  exact ⟨rfl, rfl⟩

noncomputable abbrev ResT (q r : Int) (add : List (Addr × Obj)) (v : Value) : Prop := ∃ l t1 t2 more, v = .ref l ∧ add = (l, tupO [.int q t1, .int r t2]) :: more
theorem divmod1 {w loose mean mg mb} (x b : Int) (tx tb : Tok) (hx : 0 ≤ x) (hx2 : x < 256) (hb : 0 < b) (hb2 : b < 5) :
   TS2 w loose mean mg mb 352 52 73 (fun _ => True) [.int x tx, .int b tb] (ResT (x.fdiv b) (x.fmod b)) := by
  intro dp un gd cn cs a ccd cl outer A₀ base h₀ L m t1 t2 rest K s Q E hdp hun B F X N T hk cd1 cd2 hne hL ok1 ok2 hK _ hret
  refine around_le (A' := ktrTop 352 52 gd cn cs L a ccd cl outer) rfl hdp rfl rfl hun ?_
  obtain ⟨k, nm, g, c, mo⟩ := cs
  subst hk
  have hL1 := ltN hL
  walk1
  have hLL := frame_lt (h₀ := h₀) (L := L) (m := m) (by assumption) (by assumption)
  (repeat' (first | (k_unfold; (try dsimp only)) | (k_end; wrow_close) | ((fail_if_success (with_reducible show wpAny _ _ (call (Value.ref _) _) _ _ _)); walk1) | ((fail_if_success (show wpAny _ _ (call (Value.ref _) _) _ _ _)); dsimp only; walk1) | (leave1; walk_say "STEP leave1"; try dsimp only) | fail "no step"))
  all_goals (try (exfalso; omega))
  · k_dflt (refine' divmod_pos_spec x b tx tb hx hx2 hb hb2 _ _ _ _ _ _ _ _ _ _ _ _ _ _ _ _ _ _ _ _ _ ?le1 ?le2 ?B ?F ?X ?N ?T ?k ?c1 ?c2 ?ne ?hL ?ok1 ?ok2 ?hK trivial ?_)
    case B => k_asm
    case F => k_asm
    case X => k_asm
    case N => k_asm
    case T => k_asm
    case k => exact rfl
    case c1 => assumption
    case c2 => assumption
    case ne => assumption
    case hL => exact Nat.lt_trans hL hLL
    case ok1 => assumption
    case ok2 => assumption
    case hK => assumption
    case le1 => show 353 ≤ 355; decide
    case le2 => show 55 ≤ 55; decide
    intro r9 add9 t1' t2' h9 tk9 F9 N9 lt9 gt9 ok1' ok2' res9
    try dsimp only
    try k_fold
    obtain ⟨l9, ta9, tb9, more9, rfl, rfl⟩ := res9
    simp only [List.cons_append] at N9 ok1' ok2'
    (repeat' (first | (k_unfold; (try dsimp only)) | (k_end; wrow_close) | ((fail_if_success (with_reducible show wpAny _ _ (call (Value.ref _) _) _ _ _)); walk1) | ((fail_if_success (show wpAny _ _ (call (Value.ref _) _) _ _ _)); dsimp only; walk1) | (leave1; walk_say "STEP leave1"; try dsimp only) | fail "no step"))
    exact hret _ ((l9, tupO _) :: more9) t1' t2' _ _ (by k_asm) (by k_asm) lt9 (fun p hp => Nat.lt_trans hLL (gt9 p hp)) ok1' ok2' ⟨_, _, _, _, rfl, rfl⟩
theorem divmod2 {w loose mean mg mb} (x b : Int) (tx tb : Tok) (hx : x < 0) (hx2 : -256 ≤ x) (hb : 0 < b) (hb2 : b < 5) :
   TS2 w loose mean mg mb 346 46 73 (fun _ => True) [.int x tx, .int b tb] (ResT (x.fdiv b) (x.fmod b)) := by
  intro dp un gd cn cs a ccd cl outer A₀ base h₀ L m t1 t2 rest K s Q E hdp hun B F X N T hk cd1 cd2 hne hL ok1 ok2 hK _ hret
  refine around_le (A' := ktrTop 346 46 gd cn cs L a ccd cl outer) rfl hdp rfl rfl hun ?_
  obtain ⟨k, nm, g, c, mo⟩ := cs
  subst hk
  have hL1 := ltN hL
  walk1
  have hLL := frame_lt (h₀ := h₀) (L := L) (m := m) (by assumption) (by assumption)
  (repeat' (first | (k_unfold; (try dsimp only)) | (k_end; wrow_close) | ((fail_if_success (with_reducible show wpAny _ _ (call (Value.ref _) _) _ _ _)); walk1) | ((fail_if_success (show wpAny _ _ (call (Value.ref _) _) _ _ _)); dsimp only; walk1) | (leave1; walk_say "STEP leave1"; try dsimp only) | fail "no step"))
  all_goals (try (exfalso; omega))
  · k_dflt (refine' divmod1 _ b _ tb ?z1 ?z2 hb hb2 _ _ _ _ _ _ _ _ _ _ _ _ _ _ _ _ _ _ _ _ _ ?le1 ?le2 ?B ?F ?X ?N ?T ?k ?c1 ?c2 ?ne ?hL ?ok1 ?ok2 ?hK trivial ?_)
    case B => k_asm
    case F => k_asm
    case X => k_asm
    case N => k_asm
    case T => k_asm
    case k => exact rfl
    case c1 => assumption
    case c2 => assumption
    case ne => assumption
    case hL => exact Nat.lt_trans hL hLL
    case ok1 => assumption
    case ok2 => assumption
    case hK => assumption
    case le1 => show 347 ≤ 352; decide
    case le2 => show 49 ≤ 52; decide
    case z1 => rw [bitNot_eq]; omega
    case z2 => rw [bitNot_eq]; omega
    intro r9 add9 t1' t2' h9 tk9 F9 N9 lt9 gt9 ok1' ok2' res9
    try dsimp only
    try k_fold
    obtain ⟨l9, ta9, tb9, more9, rfl, rfl⟩ := res9
    simp only [List.cons_append] at N9 ok1' ok2'
    (repeat' (first | (k_unfold; (try dsimp only)) | (k_end; wrow_close) | ((fail_if_success (with_reducible show wpAny _ _ (call (Value.ref _) _) _ _ _)); walk1) | ((fail_if_success (show wpAny _ _ (call (Value.ref _) _) _ _ _)); dsimp only; walk1) | (leave1; walk_say "STEP leave1"; try dsimp only) | fail "no step"))
    rename_i Dt ht Ft Nt lt1 _ _ _ _
    obtain ⟨e1, e2⟩ := neg_div hx hb
    rw [e1, e2] at hret
    refine hret _ ((Dt, tupO [.int _ tk, .int _ (tk + 1 + 1)]) :: (l9, tupO [.int ((Builtin.bitNot x).fdiv b) ta9, .int ((Builtin.bitNot x).fmod b) tb9]) :: more9) t1' t2' _ _ (by k_asm) (news_perm (by k_asm) ?_) ?_ ?_ ?_ ?_ ⟨_, _, _, _, rfl, rfl⟩
    · k_slotset
    · intro p hp q hq
      simp only [List.mem_cons] at hp
      rcases hp with rfl | hp
      · exact allLt_all lt1.2.2.2 q (by k_data)
      · exact lt9 p (by simpa using hp) q hq
    · intro p hp
      simp only [List.mem_cons] at hp
      rcases hp with rfl | hp
      · exact Nat.lt_trans hLL (Nat.lt_trans (gt9 _ (.head _)) lt1.2.2.1)
      · exact Nat.lt_trans hLL (gt9 p (List.mem_cons.mpr hp))
    · exact ok1'.mono (by k_slotset)
    · exact ok2'.mono (by k_slotset)

theorem TS2.mono {w loose mean mg mb dp un dp' un' f pre vs Res} (h : TS2 w loose mean mg mb dp un f pre vs Res) (h1 : dp' ≤ dp) (h2 : un' ≤ un) : TS2 w loose mean mg mb dp' un' f pre vs Res :=
  fun a b c d e f g h' i j k l m n o p q r s t u h3 h4 => h a b c d e f g h' i j k l m n o p q r s t u (Nat.le_trans h3 h1) (Nat.le_trans h4 h2)
theorem divmod3 {w loose mean mg mb} (x b : Int) (tx tb : Tok) (hx : -256 ≤ x) (hx2 : x < 256) (hb : 0 < b) (hb2 : b < 5) :
   TS2 w loose mean mg mb 346 46 73 (fun _ => True) [.int x tx, .int b tb] (ResT (x.fdiv b) (x.fmod b)) := by
  by_cases h : x < 0
  · exact divmod2 x b tx tb h hx hb hb2
  · exact (divmod1 x b tx tb (by omega) hx2 hb hb2).mono (by decide) (by decide)
theorem divmod4 {w loose mean mg mb} (x b : Int) (tx tb : Tok) (hx : -256 < x) (hx2 : x < 256) (hb : b < 0) (hb2 : -5 < b) :
   TS2 w loose mean mg mb 342 42 73 (fun _ => True) [.int x tx, .int b tb] (ResT ((-x).fdiv (-b)) (-((-x).fmod (-b)))) := by
  intro dp un gd cn cs a ccd cl outer A₀ base h₀ L m t1 t2 rest K s Q E hdp hun B F X N T hk cd1 cd2 hne hL ok1 ok2 hK _ hret
  refine around_le (A' := ktrTop 342 42 gd cn cs L a ccd cl outer) rfl hdp rfl rfl hun ?_
  obtain ⟨k, nm, g, c, mo⟩ := cs
  subst hk
  have hL1 := ltN hL
  walk1
  have hLL := frame_lt (h₀ := h₀) (L := L) (m := m) (by assumption) (by assumption)
  (repeat' (first | (k_unfold; (try dsimp only)) | (k_end; wrow_close) | ((fail_if_success (with_reducible show wpAny _ _ (call (Value.ref _) _) _ _ _)); walk1) | ((fail_if_success (show wpAny _ _ (call (Value.ref _) _) _ _ _)); dsimp only; walk1) | (leave1; walk_say "STEP leave1"; try dsimp only) | fail "no step"))
  all_goals (try (exfalso; omega))
  · k_dflt (refine' divmod3 _ _ _ _ ?z1 ?z2 ?z3 ?z4 _ _ _ _ _ _ _ _ _ _ _ _ _ _ _ _ _ _ _ _ _ ?le1 ?le2 ?B ?F ?X ?N ?T ?k ?c1 ?c2 ?ne ?hL ?ok1 ?ok2 ?hK trivial ?_)
    case B => k_asm
    case F => k_asm
    case X => k_asm
    case N => k_asm
    case T => k_asm
    case k => exact rfl
    case c1 => assumption
    case c2 => assumption
    case ne => assumption
    case hL => exact Nat.lt_trans hL hLL
    case ok1 => assumption
    case ok2 => assumption
    case hK => assumption
    case le1 => show 343 ≤ 346; decide
    case le2 => show 45 ≤ 46; decide
    case z1 => omega
    case z2 => omega
    case z3 => omega
    case z4 => omega
    intro r9 add9 t1' t2' h9 tk9 F9 N9 lt9 gt9 ok1' ok2' res9
    try dsimp only
    try k_fold
    obtain ⟨l9, ta9, tb9, more9, rfl, rfl⟩ := res9
    simp only [List.cons_append] at N9 ok1' ok2'
    (repeat' (first | (k_unfold; (try dsimp only)) | (k_end; wrow_close) | ((fail_if_success (with_reducible show wpAny _ _ (call (Value.ref _) _) _ _ _)); walk1) | ((fail_if_success (show wpAny _ _ (call (Value.ref _) _) _ _ _)); dsimp only; walk1) | (leave1; walk_say "STEP leave1"; try dsimp only) | fail "no step"))
    rename_i Dt ht Ft Nt lt1 _ _ _ _
    refine hret _ ((Dt, tupO [.int _ ta9, .int _ tk]) :: (l9, tupO [.int ((-x).fdiv (-b)) ta9, .int ((-x).fmod (-b)) tb9]) :: more9) t1' t2' _ _ (by k_asm) (news_perm (by k_asm) ?_) ?_ ?_ ?_ ?_ ⟨_, _, _, _, rfl, rfl⟩
    · k_slotset
    · intro p hp q hq
      simp only [List.mem_cons] at hp
      rcases hp with rfl | hp
      · exact allLt_all lt1.2.2.2 q (by k_data)
      · exact lt9 p (by simpa using hp) q hq
    · intro p hp
      simp only [List.mem_cons] at hp
      rcases hp with rfl | hp
      · exact Nat.lt_trans hLL (Nat.lt_trans (gt9 _ (.head _)) lt1.2.2.1)
      · exact Nat.lt_trans hLL (gt9 p (List.mem_cons.mpr hp))
    · exact ok1'.mono (by k_slotset)
    · exact ok2'.mono (by k_slotset)

end
-- C6
section
open PySem PySem.W PyProof.Rows PySem.Calls PySem.Spec PyProof.V
theorem fill6 : PySem.Challenge.rw_ij0118_01 = PySem.Challenge.rw_ij0118_01 ∧ hd.heap_1 = hd.heap_1 := by
  k_fill
  exact ⟨rfl, rfl⟩

/-- the four letters -/
noncomputable abbrev S4 : Str := Str.ofString "-abc"
noncomputable abbrev ix (k : Str) (i : Int) : Int := Txt.find S4 (Txt.item k i)
noncomputable def IxOk (k : Str) : Prop := ∀ i : Int, 0 ≤ i → i < k.length → 0 ≤ ix k i ∧ ix k i ≤ 3
noncomputable def KOk (k : Str) : Prop := k.length ≤ 4 ∧ IxOk k
theorem ix_absurd {k : Str} {i : Int} (h : IxOk k) (h0 : 0 ≤ i) (h1 : i < k.length) (hF : Txt.find (Str.ofString "-abc") (Txt.item k i) = -1) : False := by
  have := (h i h0 h1).1
  have h2 : ix k i = -1 := hF
  omega
/-- the quotient and the places after the (reversed) kinds -/
noncomputable def qF : List Str → Int → Int
  | [], n => n
  | k :: pr, n => qF pr (n.fdiv k.length)
noncomputable def pF : List Str → Int → List Int
  | [], _ => []
  | k :: pr, n => ix k (n.fmod k.length) :: pF pr (n.fdiv k.length)
theorem qF_snoc : ∀ (pr : List Str) (k : Str) (n : Int), qF (pr ++ [k]) n = (qF pr n).fdiv k.length
  | [], _, _ => rfl
  | _ :: pr, k, n => qF_snoc pr k _
theorem pF_snoc : ∀ (pr : List Str) (k : Str) (n : Int), pF (pr ++ [k]) n = pF pr n ++ [ix k ((qF pr n).fmod k.length)]
  | [], _, _ => rfl
  | a :: pr, k, n => by show _ :: pF (pr ++ [k]) _ = _; rw [pF_snoc pr k]; rfl
theorem pF_len : ∀ (pr : List Str) (n : Int), (pF pr n).length = pr.length
  | [], _ => rfl
  | _ :: pr, n => by simp [pF, pF_len pr]
theorem qF_range : ∀ (pr : List Str) (n : Int), (∀ k ∈ pr, 0 < k.length) → -61 ≤ n → n ≤ 61 → -61 ≤ qF pr n ∧ qF pr n ≤ 61
  | [], n, _, h1, h2 => ⟨h1, h2⟩
  | k :: pr, n, h, h1, h2 => by
    have hk := h k (.head _)
    have hk' : (0 : Int) < k.length := by omega
    have hd := Int.mul_fdiv_add_fmod n k.length
    have hm0 := Int.fmod_nonneg_of_pos n hk'
    have hm1 := Int.fmod_lt_of_pos n hk'
    refine qF_range pr _ (fun k' hk' => h k' (.tail _ hk')) ?_ ?_
    · rw [Int.fdiv_eq_ediv_of_nonneg _ (by omega)]
      refine (Int.le_ediv_iff_mul_le hk').mpr ?_
      have : -61 * (k.length : Int) ≤ -61 * 1 := Int.mul_le_mul_of_nonpos_left (by omega) (by omega)
      omega
    · rw [Int.fdiv_eq_ediv_of_nonneg _ (by omega)]
      refine Int.lt_add_one_iff.mp ((Int.ediv_lt_iff_lt_mul hk').mpr ?_)
      have : (61 + 1) * 1 ≤ (61 + 1) * (k.length : Int) := Int.mul_le_mul_of_nonneg_left (by omega) (by omega)
      omega
theorem dval_zeros (n : Nat) : ∀ k : Nat, dval n (List.replicate k 0) = 0
  | 0 => rfl
  | k + 1 => by rw [List.replicate_succ]; simp [dval, dval_zeros n k]
theorem dval_inj (n : Nat) (a : List Int) : ∀ (b : List Int), a.length = b.length → (∀ d ∈ a, 0 ≤ d ∧ d < 2 ^ n) → (∀ d ∈ b, 0 ≤ d ∧ d < 2 ^ n) → dval n a = dval n b → a = b := by
  induction a with
  | nil => intro b hl _ _ _; exact (List.eq_nil_of_length_eq_zero hl.symm).symm
  | cons x a ih =>
    intro b hl ha hb h
    cases b with
    | nil => cases hl
    | cons y b =>
      have hx := ha x (.head _)
      have hy := hb y (.head _)
      have hp : (0 : Int) < 2 ^ n := Int.pow_pos (by decide)
      have h' : x + 2 ^ n * dval n a = y + 2 ^ n * dval n b := h
      have e1 : x = y := by
        have := congrArg (· % (2 ^ n : Int)) h'
        simp only [Int.add_mul_emod_self_left] at this
        rwa [Int.emod_eq_of_lt hx.1 hx.2, Int.emod_eq_of_lt hy.1 hy.2] at this
      subst e1
      have e2 : dval n a = dval n b := Int.eq_of_mul_eq_mul_left (Int.ne_of_gt hp) (Int.add_left_cancel h')
      rw [ih b (Nat.succ.inj hl) (fun d hd => ha d (.tail _ hd)) (fun d hd => hb d (.tail _ hd)) e2]
theorem digits_back {D : Nat} {x : Int} {ds ps : List Int} (hg : if x = 0 then ds = [] else Good 2 D x ds) (hx : x = dval 2 ps) (hps : ∀ d ∈ ps, 0 ≤ d ∧ d < 2 ^ 2) (hD : D ≤ ps.length) (hxD : x < 2 ^ (2 * D)) :
    ds ++ List.replicate (ps.length - ds.length) 0 = ps ∧ ds.length ≤ ps.length := by
  have hd : ds.length ≤ ps.length ∧ dval 2 ds = x ∧ (∀ d ∈ ds, 0 ≤ d ∧ d < 2 ^ 2) := by
    by_cases h0 : x = 0
    · rw [if_pos h0] at hg; subst hg; exact ⟨Nat.zero_le _, h0.symm, fun _ h => nomatch h⟩
    · rw [if_neg h0] at hg; exact ⟨by rw [hg.1]; exact hD, hg.2.2.1, fun d hd => ⟨hg.2.1 d hd, hg.2.2.2 hxD d hd⟩⟩
  refine ⟨dval_inj 2 _ _ (by simp; omega) ?_ hps ?_, hd.1⟩
  · intro d h
    rcases List.mem_append.mp h with h | h
    · exact hd.2.2 d h
    · rw [(List.mem_replicate.mp h).2]; decide
  · rw [dval_append, dval_zeros, Int.mul_zero, Int.add_zero, hd.2.1, hx]
theorem D_told {x : Int} {k : Nat} (hx : 0 ≤ x) (hx2 : x < 2 ^ (2 * k)) : ∃ D : Nat, ((Builtin.Int.intBits x : Int) + 2 - 1).fdiv 2 = D ∧ D ≤ k ∧ x < 2 ^ (2 * D) := by
  obtain ⟨b1, b2⟩ := bits_lt hx
  have h3 := b2 _ hx2
  refine ⟨(Builtin.Int.intBits x + 1) / 2, ?_, by omega, Int.lt_of_lt_of_le b1 ?_⟩
  · rw [Int.fdiv_eq_ediv_of_nonneg _ (by decide), Int.add_sub_assoc]; rfl
  · exact_mod_cast Nat.pow_le_pow_right (by decide) (by omega : Builtin.Int.intBits x ≤ 2 * ((Builtin.Int.intBits x + 1) / 2))
theorem pF_digit : ∀ (pr : List Str) (n : Int), (∀ k ∈ pr, 0 < k.length ∧ IxOk k) → ∀ d ∈ pF pr n, 0 ≤ d ∧ d < 2 ^ 2
  | [], _, _, _, h => nomatch h
  | k :: pr, n, hk, d, h => by
    obtain ⟨h1, h2⟩ := hk k (.head _)
    rcases List.mem_cons.mp h with rfl | h
    · have hp : (0 : Int) < k.length := by omega
      have := h2 (n.fmod k.length) (Int.fmod_nonneg_of_pos n hp) (Int.fmod_lt_of_pos n hp)
      constructor
      · exact this.1
      · show _ < (4 : Int); omega
    · exact pF_digit pr _ (fun k' h' => hk k' (.tail _ h')) d h
theorem pF_dec (k : Str) (pr : List Str) (n : Int) : decide (pF (k :: pr) n = []) = false := by simp [pF]

theorem strsAre_rev {vs : List Value} {ys : List Str} (h : StrsAre vs ys) : StrsAre vs.reverse ys.reverse := by
  induction h with
  | nil => exact .nil
  | cons y t _ ih =>
    rw [List.reverse_cons, List.reverse_cons]
    exact ih.append' (.cons y t .nil)
/-- a made object that lies off the loop's own -/
noncomputable abbrev FarP (lp Dq : Addr) (rest : List (Addr × Obj)) (p : Addr × Obj) : Prop := (∀ q ∈ rest, q.1 < p.1) ∧ (54 : Addr) < p.1 ∧ lp ≠ p.1 ∧ Dq ≠ p.1
/-- a contract for a def that holds a try, called from the law's own frame -/
noncomputable def TSL (w : World) (loose : List Str) (mean : ExcName → Option Value) (mg mb : Str → Option Value) (dp un : Nat) (f : Addr)
    (pre : List (Addr × Obj) → Prop) (vs : List Value) (Res : List (Addr × Obj) → Value → Prop) : Prop :=
  ∀ (dp' un' : Nat) (gd : Option (List Code)) (cn : Str) (cs : Scope) (a : Addr) (ccd : Value) (cl : List (Str × Addr)) (A₀ : Around) (h₀ : Heap) (L : Addr)
    (m : Str → Option Value) (t1 t2 : Obj) (rest K : List (Addr × Obj)) (s : Shared) (Q E : Value → Shared → Prop), dp' ≤ dp → un' ≤ un →
    Below A₀ h₀ [] h₀ → Fr h₀ L s.heap m → (hd.heap_1 w.params).In h₀ → News h₀ L s.heap ((54, t1) :: (47, t2) :: rest) → Top topProg loose mean mg mb h₀ → cs.kind = .function →
    CodeHd h₀ 58 54 → CodeHd h₀ 51 47 → (∀ p ∈ rest, p.1 ≠ 54 ∧ p.1 ≠ 47) → 99 < L → Ok54 t1 K → Ok47 t2 K → (∀ p ∈ K, p ∈ rest) → pre rest →
    (∀ r add t1' t2' h' tk', Fr h₀ L h' m → News h₀ L h' ((54, t1') :: (47, t2') :: (add ++ rest)) → (∀ p ∈ add, ∀ q ∈ rest, q.1 < p.1) → (∀ p ∈ add, (54 : Addr) < p.1) →
      Ok54 t1' (add ++ K) → Ok47 t2' (add ++ K) → Res add r → Q r { s with heap := h', toks := tk' }) →
    wpAny (model PySem.Challenge.rw_ij0118_01.row.prog w) (ktrTop dp' un' gd cn cs L a ccd cl []) (call (.ref f) vs) Q E s

inductive InvT (lp lrow Dq : Addr) (lo : Obj) (number : Int) (tn : Tok) (ks : List Str) (rest K : List (Addr × Obj)) (r : List Value) (m : Str → Option Value) (news : List (Addr × Obj)) : Prop
  | mk : ∀ (pr rs : List Str) (pv : List Value) (tl : Tok) (e : Nat) (t1 t2 : Obj) (add : List (Addr × Obj)), (StrsAre r rs) → (pr ++ rs = ks) → ((∀ k ∈ pr, 0 < k.length)) → (IntsAre pv (pF pr number)) → (m (Str.ofString "left") = some (.int (qF pr number) tl)) → (m (Str.ofString "number") = some (.int number tn)) → (m (Str.ofString "places") = some (.ref lp)) → (news = (lp, listOf pv.toArray e) :: (lrow, lo) :: (54, t1) :: (47, t2) :: (add ++ rest)) → ((∀ p ∈ add, FarP lp Dq rest p)) → (Ok54 t1 (add ++ K)) → (Ok47 t2 (add ++ K)) → ((54 : Addr) < lp) → ((∀ q ∈ rest, q.1 < lp)) → InvT lp lrow Dq lo number tn ks rest K r m news
theorem law_told_spec {w loose mean mg mb} (number : Int) (tn : Tok) (lrow : Addr) (kv : List Value) (ks : List Str) (e : Nat) (hn : -61 ≤ number) (hn2 : number ≤ 61) (hks : StrsAre kv ks) (hok : ∀ k ∈ ks, KOk k) (hlen : ks.length ≤ 4) (hlen2 : 0 < ks.length) :
   TSL w loose mean mg mb 336 36 130 (fun rest => (lrow, listOf kv.toArray e) ∈ rest) [.int number tn, .ref lrow] (fun add r => ((∃ k ∈ ks, k.length = 0) → ∃ t, r = .str (Str.ofString "refused") t) ∧ ((∀ k ∈ ks, 0 < k.length) → ∃ l t1 t2 more, r = .ref l ∧ add = (l, tupO [.int (qF ks.reverse number) t1, .int (dval 2 (pF ks.reverse number)) t2]) :: more)) := by
  intro dp un gd cn cs a ccd cl A₀ h₀ L m t1 t2 rest K s Q E hdp hun B F X N T hk cd1 cd2 hne hL ok1 ok2 hK hrow hret
  refine around_le (A' := ktrTop 336 36 gd cn cs L a ccd cl []) rfl hdp rfl rfl hun ?_
  obtain ⟨k, nm, g, c, mo⟩ := cs
  subst hk
  have hL1 := ltN hL
  replace N : News h₀ L s.heap ((lrow, listOf kv.toArray e) :: (54, t1) :: (47, t2) :: rest) := news_perm N (by intro p hp; rcases List.mem_cons.mp hp with rfl | hp; exact .tail _ (.tail _ hrow); exact hp)
  refine wpAny_call ?_
  refine' code_trySX ?k1 ?k2 ?k3 ?k4 ?k5 ?kA ?kF ?cK ?k6 ?k7 ?k8 ?k9 ?kB ?_ ?c2 ?c3 ?c4 ?c5
  case kA => exact rfl
  case kF => exact rfl
  case k2 => k_asm
  case k1 => k_asm
  case k3 => k_asm
  case k4 => k_asm
  case k5 => k_asm
  case k6 => k_is
  case k7 => k_is
  case k8 => k_room
  case k9 => exact BindsTo.of_eq rfl
  case kB => exact locs rfl
  case cK => exact rfl
  case c2 => exact rfl
  case c3 => exact rfl
  case c4 => exact rfl
  case c5 => decide
  k_whole
  intro g' L' h' FG' F' N' B' X' T' D'
  try dsimp only
  try k_lift B'
  try k_fold
  have hLL := frame_lt (h₀ := h₀) (L := L) (m := m) (by assumption) (by assumption)
  (repeat' (first | (k_unfold; (try dsimp only)) | (first | with_reducible ((k_here; (with_reducible show wpAny _ _ (compareOp CmpOp.Eq (Value.ref _) (Value.ref _)) _ _ _); (with_unfolding_all refine' eq_intsK (News.isList (by k_asm) (by k_mem)) (by first | assumption | exact IntsAre.nil) (News.isList (by k_asm) (by k_mem)) (by first | assumption | exact IntsAre.nil) (by units_room) ?_); (try rw [pF_dec]))) | ((k_here; (with_reducible show wpAny _ _ (compareOp CmpOp.Eq (Value.ref _) (Value.ref _)) _ _ _); (with_unfolding_all refine' eq_intsK (News.isList (by k_asm) (by k_mem)) (by first | assumption | exact IntsAre.nil) (News.isList (by k_asm) (by k_mem)) (by first | assumption | exact IntsAre.nil) (by units_room) ?_); (try rw [pF_dec])))) | (first | with_reducible ((k_here; (with_reducible show wpAny _ _ (noteFrame _ _) (fun _ s₂ => wpAny _ _ (setFlight _ none) (fun _ s₃ => wpAny _ _ (handleBy _ _ (ExceptHandler.ExceptHandler (some (Expr.Name ("ZeroDivisionError" : Str) _)) none _ _ :: _)) _ _ s₃) _ s₂) _ _); k_dflt (refine' caught_S0 (T' := "ZeroDivisionError") ?R ?F ?K ?U ?XB ?TB ?D ?T0 ?ex PyProof.Rows.Boot.«ZeroDivisionError» ?hn PySem.F.isExc_ZeroDivisionError PySem.F.notTuple_ZeroDivisionError ?hs ?_; (case R => assumption); (case F => assumption); (case K => assumption); (case U => assumption); (case XB => assumption); (case TB => assumption); (case D => assumption); (case T0 => exact KtsTurn.refl); (case hs => (rw [isSubtype_type]; kernel_rfl!)); (case ex => k_is); (case hn => decide); k_whole); intro _ _ _ _ _ _ _ _ _ _ _ _; (try k_sweep))) | ((k_here; (with_reducible show wpAny _ _ (noteFrame _ _) (fun _ s₂ => wpAny _ _ (setFlight _ none) (fun _ s₃ => wpAny _ _ (handleBy _ _ (ExceptHandler.ExceptHandler (some (Expr.Name ("ZeroDivisionError" : Str) _)) none _ _ :: _)) _ _ s₃) _ s₂) _ _); k_dflt (refine' caught_S0 (T' := "ZeroDivisionError") ?R ?F ?K ?U ?XB ?TB ?D ?T0 ?ex PyProof.Rows.Boot.«ZeroDivisionError» ?hn PySem.F.isExc_ZeroDivisionError PySem.F.notTuple_ZeroDivisionError ?hs ?_; (case R => assumption); (case F => assumption); (case K => assumption); (case U => assumption); (case XB => assumption); (case TB => assumption); (case D => assumption); (case T0 => exact KtsTurn.refl); (case hs => (rw [isSubtype_type]; kernel_rfl!)); (case ex => k_is); (case hn => decide); k_whole); intro _ _ _ _ _ _ _ _ _ _ _ _; (try k_sweep)))) | ((with_reducible show wpAny _ _ (leaving _ (Value.ref _)) _ _ _); (first | with_reducible ((k_here; (refine' leave_raiseS ?k1 ?k0 ?k2 ?k3 ?_; (case k0 => first | assumption | exact Heap.MadeExc.of (by assumption)); (case k2 => assumption); (case k1 => assumption); (case k3 => k_asm); k_whole; intro _ _ S' R' U'; (try dsimp only at S' R' U' ⊢))); (try (revert S' R' U'; intro _ _ _))) | ((k_here; (refine' leave_raiseS ?k1 ?k0 ?k2 ?k3 ?_; (case k0 => first | assumption | exact Heap.MadeExc.of (by assumption)); (case k2 => assumption); (case k1 => assumption); (case k3 => k_asm); k_whole; intro _ _ S' R' U'; (try dsimp only at S' R' U' ⊢))); (try (revert S' R' U'; intro _ _ _))))) | ((with_reducible show wpAny _ _ (call (Value.builtin "str.index") _) _ _ _); (first | with_reducible ((k_here; (refine index_or (by rfl) (fun hF9 _ => (ix_absurd (by with_reducible assumption) (by omega) (by omega) hF9).elim) ?_); (intro _ _))) | ((k_here; (refine index_or (by rfl) (fun hF9 _ => (ix_absurd (by with_reducible assumption) (by omega) (by omega) hF9).elim) ?_); (intro _ _))))) | (first | with_reducible ((k_here; (with_reducible show wpAny _ _ (subscriptTail _ _ (Value.str _ _) (Value.int _ _)) _ _ _); (refine KXi.item rfl (by omega) (by omega) (by omega) ?_); intro _)) | ((k_here; (with_reducible show wpAny _ _ (subscriptTail _ _ (Value.str _ _) (Value.int _ _)) _ _ _); (refine KXi.item rfl (by omega) (by omega) (by omega) ?_); intro _))) | ((with_reducible show wpAny _ _ (call (Value.builtin "len") _) _ _ _); (first | with_reducible ((k_here; (with_reducible show wpAny _ _ (call (Value.builtin _) [Value.str _ _]) _ _ _); (refine len_str (by omega) ?_))) | ((k_here; (with_reducible show wpAny _ _ (call (Value.builtin _) [Value.str _ _]) _ _ _); (refine len_str (by omega) ?_))))) | (first | with_reducible ((k_here; (with_reducible show wpAny _ _ (exec (Stmt.Raise (some (Expr.Name ("ZeroDivisionError" : Str) _)) none _) _) _ _ _); (with_reducible rename Fr _ _ _ _ => kF); k_dflt (refine' raiseZ ?hh ?hx ?_; (case hh => rfl); (case hx => (refine' name_B kF ?k1 ?k2 ?k3 ?k4 ?k5 ?_; (case k1 => k_asm); (case k2 => k_asm); (case k3 => k_is); (case k4 => boot_by_name); (case k5 => decide); exact ⟨rfl, rfl⟩))); intro _ _ _)) | ((k_here; (with_reducible show wpAny _ _ (exec (Stmt.Raise (some (Expr.Name ("ZeroDivisionError" : Str) _)) none _) _) _ _ _); (with_reducible rename Fr _ _ _ _ => kF); k_dflt (refine' raiseZ ?hh ?hx ?_; (case hh => rfl); (case hx => (refine' name_B kF ?k1 ?k2 ?k3 ?k4 ?k5 ?_; (case k1 => k_asm); (case k2 => k_asm); (case k3 => k_is); (case k4 => boot_by_name); (case k5 => decide); exact ⟨rfl, rfl⟩))); intro _ _ _))) | ((with_reducible show wpAny _ _ (call (Value.builtin "list.append") _) _ _ _); (first | with_reducible ((k_here; (with_reducible show wpAny _ _ (call (Value.builtin _) [Value.ref _, _]) _ _ _); k_dflt (refine' app_K (by k_asm) (by k_asm) (by k_upd) (by first | with_reducible assumption | omega | assumption) ?_); intro _ _ _; (try k_sweep))) | ((k_here; (with_reducible show wpAny _ _ (call (Value.builtin _) [Value.ref _, _]) _ _ _); k_dflt (refine' app_K (by k_asm) (by k_asm) (by k_upd) (by first | with_reducible assumption | omega | assumption) ?_); intro _ _ _; (try k_sweep))))) | (k_end; wrow_close) | ((fail_if_success (with_reducible show wpAny _ _ (call (Value.ref _) _) _ _ _)); walk1) | ((fail_if_success (show wpAny _ _ (call (Value.ref _) _) _ _ _)); dsimp only; walk1) | (leave1; walk_say "STEP leave1"; try dsimp only) | fail "no step"))
  rename_i lp hq2 l1q hq1 Dq hq0 Fq Nq l1d
  have hDrest := l1d.2.2.2.2
  have hL54 : @LT.lt Nat _ 54 L' := Nat.lt_trans (by decide) (Nat.lt_trans hL1 hLL)
  refine iter_revUnr (lo := listOf kv.toArray e) (vs := kv) (n := e) rfl Fq Nq (offI_of (by k_all)) (by k_mem) rfl rfl ?_
  refine rev_induct (InvT lp lrow Dq (listOf kv.toArray e) number tn ks.reverse rest K) ?_ ?_ _ _ _ ?_
  rotate_left 2
  · exact ⟨[], ks.reverse, [], tn, 0, t1, t2, [], strsAre_rev hks, rfl, (fun _ h => nomatch h), .nil, rfl, rfl, rfl, rfl, (fun _ h => nomatch h), ok1, ok2, l1q.2.1, allLt_all l1q.2.2.2⟩
  · rintro m9 news9 ⟨pr, rs, pv, tl, e', t1', t2', add, ir, hpr, hpos, ip, hml, hmn, hmp, rfl, gt9, ok1', ok2', lp1, lp2⟩ h8 tk8 F8 N8
    cases ir
    rw [List.append_nil] at hpr
    have hpl := pF_len pr number
    have hpvl := ip.length
    have hrl := congrArg List.length hpr
    rw [List.length_reverse] at hrl
    have hlp9 := ltN lp1
    have hpl4 : (pF pr number).length ≤ 4 := by rw [hpl, hrl]; exact hlen
    clear hpl hrl
    try dsimp only
    try k_fold
    (repeat' (first | (k_unfold; (try dsimp only)) | (first | with_reducible ((k_here; (with_reducible show wpAny _ _ (compareOp CmpOp.Eq (Value.ref _) (Value.ref _)) _ _ _); (with_unfolding_all refine' eq_intsK (News.isList (by k_asm) (by k_mem)) (by first | assumption | exact IntsAre.nil) (News.isList (by k_asm) (by k_mem)) (by first | assumption | exact IntsAre.nil) (by units_room) ?_); (try rw [pF_dec]))) | ((k_here; (with_reducible show wpAny _ _ (compareOp CmpOp.Eq (Value.ref _) (Value.ref _)) _ _ _); (with_unfolding_all refine' eq_intsK (News.isList (by k_asm) (by k_mem)) (by first | assumption | exact IntsAre.nil) (News.isList (by k_asm) (by k_mem)) (by first | assumption | exact IntsAre.nil) (by units_room) ?_); (try rw [pF_dec])))) | (first | with_reducible ((k_here; (with_reducible show wpAny _ _ (noteFrame _ _) (fun _ s₂ => wpAny _ _ (setFlight _ none) (fun _ s₃ => wpAny _ _ (handleBy _ _ (ExceptHandler.ExceptHandler (some (Expr.Name ("ZeroDivisionError" : Str) _)) none _ _ :: _)) _ _ s₃) _ s₂) _ _); k_dflt (refine' caught_S0 (T' := "ZeroDivisionError") ?R ?F ?K ?U ?XB ?TB ?D ?T0 ?ex PyProof.Rows.Boot.«ZeroDivisionError» ?hn PySem.F.isExc_ZeroDivisionError PySem.F.notTuple_ZeroDivisionError ?hs ?_; (case R => assumption); (case F => assumption); (case K => assumption); (case U => assumption); (case XB => assumption); (case TB => assumption); (case D => assumption); (case T0 => exact KtsTurn.refl); (case hs => (rw [isSubtype_type]; kernel_rfl!)); (case ex => k_is); (case hn => decide); k_whole); intro _ _ _ _ _ _ _ _ _ _ _ _; (try k_sweep))) | ((k_here; (with_reducible show wpAny _ _ (noteFrame _ _) (fun _ s₂ => wpAny _ _ (setFlight _ none) (fun _ s₃ => wpAny _ _ (handleBy _ _ (ExceptHandler.ExceptHandler (some (Expr.Name ("ZeroDivisionError" : Str) _)) none _ _ :: _)) _ _ s₃) _ s₂) _ _); k_dflt (refine' caught_S0 (T' := "ZeroDivisionError") ?R ?F ?K ?U ?XB ?TB ?D ?T0 ?ex PyProof.Rows.Boot.«ZeroDivisionError» ?hn PySem.F.isExc_ZeroDivisionError PySem.F.notTuple_ZeroDivisionError ?hs ?_; (case R => assumption); (case F => assumption); (case K => assumption); (case U => assumption); (case XB => assumption); (case TB => assumption); (case D => assumption); (case T0 => exact KtsTurn.refl); (case hs => (rw [isSubtype_type]; kernel_rfl!)); (case ex => k_is); (case hn => decide); k_whole); intro _ _ _ _ _ _ _ _ _ _ _ _; (try k_sweep)))) | ((with_reducible show wpAny _ _ (leaving _ (Value.ref _)) _ _ _); (first | with_reducible ((k_here; (refine' leave_raiseS ?k1 ?k0 ?k2 ?k3 ?_; (case k0 => first | assumption | exact Heap.MadeExc.of (by assumption)); (case k2 => assumption); (case k1 => assumption); (case k3 => k_asm); k_whole; intro _ _ S' R' U'; (try dsimp only at S' R' U' ⊢))); (try (revert S' R' U'; intro _ _ _))) | ((k_here; (refine' leave_raiseS ?k1 ?k0 ?k2 ?k3 ?_; (case k0 => first | assumption | exact Heap.MadeExc.of (by assumption)); (case k2 => assumption); (case k1 => assumption); (case k3 => k_asm); k_whole; intro _ _ S' R' U'; (try dsimp only at S' R' U' ⊢))); (try (revert S' R' U'; intro _ _ _))))) | ((with_reducible show wpAny _ _ (call (Value.builtin "str.index") _) _ _ _); (first | with_reducible ((k_here; (refine index_or (by rfl) (fun hF9 _ => (ix_absurd (by with_reducible assumption) (by omega) (by omega) hF9).elim) ?_); (intro _ _))) | ((k_here; (refine index_or (by rfl) (fun hF9 _ => (ix_absurd (by with_reducible assumption) (by omega) (by omega) hF9).elim) ?_); (intro _ _))))) | (first | with_reducible ((k_here; (with_reducible show wpAny _ _ (subscriptTail _ _ (Value.str _ _) (Value.int _ _)) _ _ _); (refine KXi.item rfl (by omega) (by omega) (by omega) ?_); intro _)) | ((k_here; (with_reducible show wpAny _ _ (subscriptTail _ _ (Value.str _ _) (Value.int _ _)) _ _ _); (refine KXi.item rfl (by omega) (by omega) (by omega) ?_); intro _))) | ((with_reducible show wpAny _ _ (call (Value.builtin "len") _) _ _ _); (first | with_reducible ((k_here; (with_reducible show wpAny _ _ (call (Value.builtin _) [Value.str _ _]) _ _ _); (refine len_str (by omega) ?_))) | ((k_here; (with_reducible show wpAny _ _ (call (Value.builtin _) [Value.str _ _]) _ _ _); (refine len_str (by omega) ?_))))) | (first | with_reducible ((k_here; (with_reducible show wpAny _ _ (exec (Stmt.Raise (some (Expr.Name ("ZeroDivisionError" : Str) _)) none _) _) _ _ _); (with_reducible rename Fr _ _ _ _ => kF); k_dflt (refine' raiseZ ?hh ?hx ?_; (case hh => rfl); (case hx => (refine' name_B kF ?k1 ?k2 ?k3 ?k4 ?k5 ?_; (case k1 => k_asm); (case k2 => k_asm); (case k3 => k_is); (case k4 => boot_by_name); (case k5 => decide); exact ⟨rfl, rfl⟩))); intro _ _ _)) | ((k_here; (with_reducible show wpAny _ _ (exec (Stmt.Raise (some (Expr.Name ("ZeroDivisionError" : Str) _)) none _) _) _ _ _); (with_reducible rename Fr _ _ _ _ => kF); k_dflt (refine' raiseZ ?hh ?hx ?_; (case hh => rfl); (case hx => (refine' name_B kF ?k1 ?k2 ?k3 ?k4 ?k5 ?_; (case k1 => k_asm); (case k2 => k_asm); (case k3 => k_is); (case k4 => boot_by_name); (case k5 => decide); exact ⟨rfl, rfl⟩))); intro _ _ _))) | ((with_reducible show wpAny _ _ (call (Value.builtin "list.append") _) _ _ _); (first | with_reducible ((k_here; (with_reducible show wpAny _ _ (call (Value.builtin _) [Value.ref _, _]) _ _ _); k_dflt (refine' app_K (by k_asm) (by k_asm) (by k_upd) (by first | with_reducible assumption | omega | assumption) ?_); intro _ _ _; (try k_sweep))) | ((k_here; (with_reducible show wpAny _ _ (call (Value.builtin _) [Value.ref _, _]) _ _ _); k_dflt (refine' app_K (by k_asm) (by k_asm) (by k_upd) (by first | with_reducible assumption | omega | assumption) ?_); intro _ _ _; (try k_sweep))))) | (k_end; wrow_close) | ((fail_if_success (with_reducible show wpAny _ _ (call (Value.ref _) _) _ _ _)); walk1) | ((fail_if_success (show wpAny _ _ (call (Value.ref _) _) _ _ _)); dsimp only; walk1) | (leave1; walk_say "STEP leave1"; try dsimp only) | fail "no step"))
    have hfar : ∀ p ∈ (lp, listOf pv.toArray e') :: (lrow, listOf kv.toArray e) :: (add ++ rest), p.1 ≠ 54 ∧ p.1 ≠ 47 := by
      intro p hp
      simp only [List.mem_cons, List.mem_append] at hp
      rcases hp with rfl | rfl | hp | hp
      · exact ne2 lp1
      · exact hne _ hrow
      · exact ne2 (gt9 p hp).2.1
      · exact hne p hp
    have hps : ∀ d ∈ pF pr number, 0 ≤ d ∧ d < 2 ^ Int.toNat 2 := pF_digit pr number fun k hk => ⟨hpos k hk, (hok k (List.mem_reverse.mp (hpr ▸ hk))).2⟩
    k_dflt (refine' digits2int_spec 2 lp pv e' (pF pr number) _ (by decide) (by decide) ip ?y1 ?y2 _ _ _ _ _ _ _ _ _ _ _ _ _ _ _ _ _ _ _ _ _ ?y3 ?y4 ?y5 ?y6 ?y7 ?y8 ?y9 ?y10 ?y11 ?y12 ?y13 ?y14 ?y15 ?y16 ?y17 ?y18 ?_)
    case y1 => omega
    case y2 => exact hps
    case y3 => show 337 ≤ 360; decide
    case y4 => show 39 ≤ 60; decide
    case y5 => k_asm
    case y6 => k_asm
    case y7 => k_asm
    case y8 => exact news_bring (news_bring (by k_asm) 3 rfl) 3 rfl
    case y9 => k_asm
    case y10 => exact rfl
    case y11 => assumption
    case y12 => assumption
    case y13 => exact hfar
    case y14 => exact Nat.lt_trans hL hLL
    case y15 => exact ok1'
    case y16 => exact ok2'
    case y17 =>
      simp only [List.eraseIdx_cons_succ, List.eraseIdx_cons_zero]
      k_slotset
    case y18 => simp [List.eraseIdx_cons_succ]
    intro r7 add7 t17 t27 h7 tk7 F7 N7 lt7 gt7 ok17 ok27 res7
    simp only [List.eraseIdx_cons_succ, List.eraseIdx_cons_zero] at N7 lt7
    try dsimp only
    try k_fold
    obtain ⟨tw, rfl⟩ := res7
    (repeat' (first | (k_unfold; (try dsimp only)) | (first | with_reducible ((k_here; (with_reducible show wpAny _ _ (compareOp CmpOp.Eq (Value.ref _) (Value.ref _)) _ _ _); (with_unfolding_all refine' eq_intsK (News.isList (by k_asm) (by k_mem)) (by first | assumption | exact IntsAre.nil) (News.isList (by k_asm) (by k_mem)) (by first | assumption | exact IntsAre.nil) (by units_room) ?_); (try rw [pF_dec]))) | ((k_here; (with_reducible show wpAny _ _ (compareOp CmpOp.Eq (Value.ref _) (Value.ref _)) _ _ _); (with_unfolding_all refine' eq_intsK (News.isList (by k_asm) (by k_mem)) (by first | assumption | exact IntsAre.nil) (News.isList (by k_asm) (by k_mem)) (by first | assumption | exact IntsAre.nil) (by units_room) ?_); (try rw [pF_dec])))) | (first | with_reducible ((k_here; (with_reducible show wpAny _ _ (noteFrame _ _) (fun _ s₂ => wpAny _ _ (setFlight _ none) (fun _ s₃ => wpAny _ _ (handleBy _ _ (ExceptHandler.ExceptHandler (some (Expr.Name ("ZeroDivisionError" : Str) _)) none _ _ :: _)) _ _ s₃) _ s₂) _ _); k_dflt (refine' caught_S0 (T' := "ZeroDivisionError") ?R ?F ?K ?U ?XB ?TB ?D ?T0 ?ex PyProof.Rows.Boot.«ZeroDivisionError» ?hn PySem.F.isExc_ZeroDivisionError PySem.F.notTuple_ZeroDivisionError ?hs ?_; (case R => assumption); (case F => assumption); (case K => assumption); (case U => assumption); (case XB => assumption); (case TB => assumption); (case D => assumption); (case T0 => exact KtsTurn.refl); (case hs => (rw [isSubtype_type]; kernel_rfl!)); (case ex => k_is); (case hn => decide); k_whole); intro _ _ _ _ _ _ _ _ _ _ _ _; (try k_sweep))) | ((k_here; (with_reducible show wpAny _ _ (noteFrame _ _) (fun _ s₂ => wpAny _ _ (setFlight _ none) (fun _ s₃ => wpAny _ _ (handleBy _ _ (ExceptHandler.ExceptHandler (some (Expr.Name ("ZeroDivisionError" : Str) _)) none _ _ :: _)) _ _ s₃) _ s₂) _ _); k_dflt (refine' caught_S0 (T' := "ZeroDivisionError") ?R ?F ?K ?U ?XB ?TB ?D ?T0 ?ex PyProof.Rows.Boot.«ZeroDivisionError» ?hn PySem.F.isExc_ZeroDivisionError PySem.F.notTuple_ZeroDivisionError ?hs ?_; (case R => assumption); (case F => assumption); (case K => assumption); (case U => assumption); (case XB => assumption); (case TB => assumption); (case D => assumption); (case T0 => exact KtsTurn.refl); (case hs => (rw [isSubtype_type]; kernel_rfl!)); (case ex => k_is); (case hn => decide); k_whole); intro _ _ _ _ _ _ _ _ _ _ _ _; (try k_sweep)))) | ((with_reducible show wpAny _ _ (leaving _ (Value.ref _)) _ _ _); (first | with_reducible ((k_here; (refine' leave_raiseS ?k1 ?k0 ?k2 ?k3 ?_; (case k0 => first | assumption | exact Heap.MadeExc.of (by assumption)); (case k2 => assumption); (case k1 => assumption); (case k3 => k_asm); k_whole; intro _ _ S' R' U'; (try dsimp only at S' R' U' ⊢))); (try (revert S' R' U'; intro _ _ _))) | ((k_here; (refine' leave_raiseS ?k1 ?k0 ?k2 ?k3 ?_; (case k0 => first | assumption | exact Heap.MadeExc.of (by assumption)); (case k2 => assumption); (case k1 => assumption); (case k3 => k_asm); k_whole; intro _ _ S' R' U'; (try dsimp only at S' R' U' ⊢))); (try (revert S' R' U'; intro _ _ _))))) | ((with_reducible show wpAny _ _ (call (Value.builtin "str.index") _) _ _ _); (first | with_reducible ((k_here; (refine index_or (by rfl) (fun hF9 _ => (ix_absurd (by with_reducible assumption) (by omega) (by omega) hF9).elim) ?_); (intro _ _))) | ((k_here; (refine index_or (by rfl) (fun hF9 _ => (ix_absurd (by with_reducible assumption) (by omega) (by omega) hF9).elim) ?_); (intro _ _))))) | (first | with_reducible ((k_here; (with_reducible show wpAny _ _ (subscriptTail _ _ (Value.str _ _) (Value.int _ _)) _ _ _); (refine KXi.item rfl (by omega) (by omega) (by omega) ?_); intro _)) | ((k_here; (with_reducible show wpAny _ _ (subscriptTail _ _ (Value.str _ _) (Value.int _ _)) _ _ _); (refine KXi.item rfl (by omega) (by omega) (by omega) ?_); intro _))) | ((with_reducible show wpAny _ _ (call (Value.builtin "len") _) _ _ _); (first | with_reducible ((k_here; (with_reducible show wpAny _ _ (call (Value.builtin _) [Value.str _ _]) _ _ _); (refine len_str (by omega) ?_))) | ((k_here; (with_reducible show wpAny _ _ (call (Value.builtin _) [Value.str _ _]) _ _ _); (refine len_str (by omega) ?_))))) | (first | with_reducible ((k_here; (with_reducible show wpAny _ _ (exec (Stmt.Raise (some (Expr.Name ("ZeroDivisionError" : Str) _)) none _) _) _ _ _); (with_reducible rename Fr _ _ _ _ => kF); k_dflt (refine' raiseZ ?hh ?hx ?_; (case hh => rfl); (case hx => (refine' name_B kF ?k1 ?k2 ?k3 ?k4 ?k5 ?_; (case k1 => k_asm); (case k2 => k_asm); (case k3 => k_is); (case k4 => boot_by_name); (case k5 => decide); exact ⟨rfl, rfl⟩))); intro _ _ _)) | ((k_here; (with_reducible show wpAny _ _ (exec (Stmt.Raise (some (Expr.Name ("ZeroDivisionError" : Str) _)) none _) _) _ _ _); (with_reducible rename Fr _ _ _ _ => kF); k_dflt (refine' raiseZ ?hh ?hx ?_; (case hh => rfl); (case hx => (refine' name_B kF ?k1 ?k2 ?k3 ?k4 ?k5 ?_; (case k1 => k_asm); (case k2 => k_asm); (case k3 => k_is); (case k4 => boot_by_name); (case k5 => decide); exact ⟨rfl, rfl⟩))); intro _ _ _))) | ((with_reducible show wpAny _ _ (call (Value.builtin "list.append") _) _ _ _); (first | with_reducible ((k_here; (with_reducible show wpAny _ _ (call (Value.builtin _) [Value.ref _, _]) _ _ _); k_dflt (refine' app_K (by k_asm) (by k_asm) (by k_upd) (by first | with_reducible assumption | omega | assumption) ?_); intro _ _ _; (try k_sweep))) | ((k_here; (with_reducible show wpAny _ _ (call (Value.builtin _) [Value.ref _, _]) _ _ _); k_dflt (refine' app_K (by k_asm) (by k_asm) (by k_upd) (by first | with_reducible assumption | omega | assumption) ?_); intro _ _ _; (try k_sweep))))) | (k_end; wrow_close) | ((fail_if_success (with_reducible show wpAny _ _ (call (Value.ref _) _) _ _ _)); walk1) | ((fail_if_success (show wpAny _ _ (call (Value.ref _) _) _ _ _)); dsimp only; walk1) | (leave1; walk_say "STEP leave1"; try dsimp only) | fail "no step"))
    have hB := dval_small hps (B := 2 * (pF pr number).length) (Nat.le_refl _)
    have hB8 : (2 : Int) ^ (2 * (pF pr number).length) ≤ 2 ^ 8 := by exact_mod_cast Nat.pow_le_pow_right (by decide) (by omega : 2 * (pF pr number).length ≤ 8)
    obtain ⟨D, hD, hD2, hxD⟩ := D_told hB.1 hB.2
    have hfar2 : ∀ p ∈ add7 ++ (lp, listOf pv.toArray e') :: (lrow, listOf kv.toArray e) :: (add ++ rest), p.1 ≠ 54 ∧ p.1 ≠ 47 := by
      intro p hp
      rcases List.mem_append.mp hp with hp | hp
      · exact ne2 (Nat.lt_trans hL54 (gt7 p hp))
      · exact hfar p hp
    k_dflt (refine' int2digits_spec (dval 2 (pF pr number)) 2 D tw _ hB.1 ?u1 (by decide) (by decide) hD ?u2 _ _ _ _ _ _ _ _ _ _ _ _ _ _ _ _ _ _ _ _ _ ?u3 ?u4 ?u5 ?u6 ?u7 ?u8 ?u9 ?u10 ?u11 ?u12 ?u13 ?u14 ?u15 ?u16 ?u17 trivial ?_)
    case u1 => exact Int.lt_of_lt_of_le hB.2 (Int.le_trans hB8 (by decide))
    case u2 => omega
    case u3 => show 337 ≤ 360; decide
    case u4 => show 39 ≤ 60; decide
    case u5 => k_asm
    case u6 => k_asm
    case u7 => k_asm
    case u8 => k_asm
    case u9 => k_asm
    case u10 => exact rfl
    case u11 => assumption
    case u12 => assumption
    case u13 => exact hfar2
    case u14 => exact Nat.lt_trans hL hLL
    case u15 => exact ok17
    case u16 => exact ok27
    case u17 =>
      k_slotset
    intro r6 add6 t16 t26 h6 tk6 F6 N6 lt6 gt6 ok16 ok26 res6
    obtain ⟨l6, vs6, ds6, more6, rfl, rfl, i6, g6⟩ := res6
    obtain ⟨hback, hdl⟩ := digits_back g6 rfl hps hD2 hxD
    have hvl6 := i6.length
    replace N6 := news_perm (news' := (l6, lstO vs6) :: (lp, listOf pv.toArray e') :: (lrow, listOf kv.toArray e) :: (54, t16) :: (47, t26) :: (more6 ++ (add7 ++ (add ++ rest)))) N6 (by k_slotset)
    try dsimp only
    try k_fold
    have hbk : ds6 ++ (List.replicate (((pF pr number).length : Int) - (ds6.length : Int)).toNat [(0 : Int)]).flatten = pF pr number := by
      rw [List.flatten_replicate_singleton, toNat_sub' _ _]
      exact hback
    (repeat' (first | (k_unfold; (try dsimp only)) | (first | with_reducible ((k_here; (with_reducible show wpAny _ _ (compareOp CmpOp.Eq (Value.ref _) (Value.ref _)) _ _ _); (with_unfolding_all refine' eq_intsK (News.isList (by k_asm) (by k_mem)) (by first | assumption | exact IntsAre.nil) (News.isList (by k_asm) (by k_mem)) (by first | assumption | exact IntsAre.nil) (by units_room) ?_); (try rw [pF_dec]))) | ((k_here; (with_reducible show wpAny _ _ (compareOp CmpOp.Eq (Value.ref _) (Value.ref _)) _ _ _); (with_unfolding_all refine' eq_intsK (News.isList (by k_asm) (by k_mem)) (by first | assumption | exact IntsAre.nil) (News.isList (by k_asm) (by k_mem)) (by first | assumption | exact IntsAre.nil) (by units_room) ?_); (try rw [pF_dec])))) | (first | with_reducible ((k_here; (with_reducible show wpAny _ _ (noteFrame _ _) (fun _ s₂ => wpAny _ _ (setFlight _ none) (fun _ s₃ => wpAny _ _ (handleBy _ _ (ExceptHandler.ExceptHandler (some (Expr.Name ("ZeroDivisionError" : Str) _)) none _ _ :: _)) _ _ s₃) _ s₂) _ _); k_dflt (refine' caught_S0 (T' := "ZeroDivisionError") ?R ?F ?K ?U ?XB ?TB ?D ?T0 ?ex PyProof.Rows.Boot.«ZeroDivisionError» ?hn PySem.F.isExc_ZeroDivisionError PySem.F.notTuple_ZeroDivisionError ?hs ?_; (case R => assumption); (case F => assumption); (case K => assumption); (case U => assumption); (case XB => assumption); (case TB => assumption); (case D => assumption); (case T0 => exact KtsTurn.refl); (case hs => (rw [isSubtype_type]; kernel_rfl!)); (case ex => k_is); (case hn => decide); k_whole); intro _ _ _ _ _ _ _ _ _ _ _ _; (try k_sweep))) | ((k_here; (with_reducible show wpAny _ _ (noteFrame _ _) (fun _ s₂ => wpAny _ _ (setFlight _ none) (fun _ s₃ => wpAny _ _ (handleBy _ _ (ExceptHandler.ExceptHandler (some (Expr.Name ("ZeroDivisionError" : Str) _)) none _ _ :: _)) _ _ s₃) _ s₂) _ _); k_dflt (refine' caught_S0 (T' := "ZeroDivisionError") ?R ?F ?K ?U ?XB ?TB ?D ?T0 ?ex PyProof.Rows.Boot.«ZeroDivisionError» ?hn PySem.F.isExc_ZeroDivisionError PySem.F.notTuple_ZeroDivisionError ?hs ?_; (case R => assumption); (case F => assumption); (case K => assumption); (case U => assumption); (case XB => assumption); (case TB => assumption); (case D => assumption); (case T0 => exact KtsTurn.refl); (case hs => (rw [isSubtype_type]; kernel_rfl!)); (case ex => k_is); (case hn => decide); k_whole); intro _ _ _ _ _ _ _ _ _ _ _ _; (try k_sweep)))) | ((with_reducible show wpAny _ _ (leaving _ (Value.ref _)) _ _ _); (first | with_reducible ((k_here; (refine' leave_raiseS ?k1 ?k0 ?k2 ?k3 ?_; (case k0 => first | assumption | exact Heap.MadeExc.of (by assumption)); (case k2 => assumption); (case k1 => assumption); (case k3 => k_asm); k_whole; intro _ _ S' R' U'; (try dsimp only at S' R' U' ⊢))); (try (revert S' R' U'; intro _ _ _))) | ((k_here; (refine' leave_raiseS ?k1 ?k0 ?k2 ?k3 ?_; (case k0 => first | assumption | exact Heap.MadeExc.of (by assumption)); (case k2 => assumption); (case k1 => assumption); (case k3 => k_asm); k_whole; intro _ _ S' R' U'; (try dsimp only at S' R' U' ⊢))); (try (revert S' R' U'; intro _ _ _))))) | ((with_reducible show wpAny _ _ (call (Value.builtin "str.index") _) _ _ _); (first | with_reducible ((k_here; (refine index_or (by rfl) (fun hF9 _ => (ix_absurd (by with_reducible assumption) (by omega) (by omega) hF9).elim) ?_); (intro _ _))) | ((k_here; (refine index_or (by rfl) (fun hF9 _ => (ix_absurd (by with_reducible assumption) (by omega) (by omega) hF9).elim) ?_); (intro _ _))))) | (first | with_reducible ((k_here; (with_reducible show wpAny _ _ (subscriptTail _ _ (Value.str _ _) (Value.int _ _)) _ _ _); (refine KXi.item rfl (by omega) (by omega) (by omega) ?_); intro _)) | ((k_here; (with_reducible show wpAny _ _ (subscriptTail _ _ (Value.str _ _) (Value.int _ _)) _ _ _); (refine KXi.item rfl (by omega) (by omega) (by omega) ?_); intro _))) | ((with_reducible show wpAny _ _ (call (Value.builtin "len") _) _ _ _); (first | with_reducible ((k_here; (with_reducible show wpAny _ _ (call (Value.builtin _) [Value.str _ _]) _ _ _); (refine len_str (by omega) ?_))) | ((k_here; (with_reducible show wpAny _ _ (call (Value.builtin _) [Value.str _ _]) _ _ _); (refine len_str (by omega) ?_))))) | (first | with_reducible ((k_here; (with_reducible show wpAny _ _ (exec (Stmt.Raise (some (Expr.Name ("ZeroDivisionError" : Str) _)) none _) _) _ _ _); (with_reducible rename Fr _ _ _ _ => kF); k_dflt (refine' raiseZ ?hh ?hx ?_; (case hh => rfl); (case hx => (refine' name_B kF ?k1 ?k2 ?k3 ?k4 ?k5 ?_; (case k1 => k_asm); (case k2 => k_asm); (case k3 => k_is); (case k4 => boot_by_name); (case k5 => decide); exact ⟨rfl, rfl⟩))); intro _ _ _)) | ((k_here; (with_reducible show wpAny _ _ (exec (Stmt.Raise (some (Expr.Name ("ZeroDivisionError" : Str) _)) none _) _) _ _ _); (with_reducible rename Fr _ _ _ _ => kF); k_dflt (refine' raiseZ ?hh ?hx ?_; (case hh => rfl); (case hx => (refine' name_B kF ?k1 ?k2 ?k3 ?k4 ?k5 ?_; (case k1 => k_asm); (case k2 => k_asm); (case k3 => k_is); (case k4 => boot_by_name); (case k5 => decide); exact ⟨rfl, rfl⟩))); intro _ _ _))) | ((with_reducible show wpAny _ _ (call (Value.builtin "list.append") _) _ _ _); (first | with_reducible ((k_here; (with_reducible show wpAny _ _ (call (Value.builtin _) [Value.ref _, _]) _ _ _); k_dflt (refine' app_K (by k_asm) (by k_asm) (by k_upd) (by first | with_reducible assumption | omega | assumption) ?_); intro _ _ _; (try k_sweep))) | ((k_here; (with_reducible show wpAny _ _ (call (Value.builtin _) [Value.ref _, _]) _ _ _); k_dflt (refine' app_K (by k_asm) (by k_asm) (by k_upd) (by first | with_reducible assumption | omega | assumption) ?_); intro _ _ _; (try k_sweep))))) | (k_end; wrow_close) | ((fail_if_success (with_reducible show wpAny _ _ (call (Value.ref _) _) _ _ _)); walk1) | ((fail_if_success (show wpAny _ _ (call (Value.ref _) _) _ _ _)); dsimp only; walk1) | (leave1; walk_say "STEP leave1"; try dsimp only) | fail "no step"))
    rename_i tk0 l1a _ o1 D2 _ _ _ _ _ _ _ o2 D1 ws _ _ o3 Dt _ _ _ o4 _ _ _ _
    have hall : ∀ p ∈ (Dt, tupO [.int (qF pr number) tl, .int (dval (Int.toNat 2) (pF pr number)) tw]) :: (D1, listOf ws.toArray 0) :: (D2, listOf (List.toArray (List.replicate (((pF pr number).length : Int) - (ds6.length : Int)).toNat [Value.int 0 tk0]).flatten) 0) :: (l1a, listOf #[.int 0 tk0] 0) :: (l6, lstO vs6) :: (lp, listOf pv.toArray e') :: (more6 ++ (add7 ++ add)), (∀ q ∈ rest, q.1 < p.1) ∧ (54 : Addr) < p.1 := by
      intro p hp
      rcases List.mem_cons.mp hp with rfl | hp
      · exact ⟨fun q hq => allLt_all o4.2.2.2.2.2.2.2.2 q (by k_data), o4.2.2.2.2.2.2.1⟩
      rcases List.mem_cons.mp hp with rfl | hp
      · exact ⟨fun q hq => allLt_all o3.2.2.2.2.2.2.2 q (by k_data), o3.2.2.2.2.2.1⟩
      rcases List.mem_cons.mp hp with rfl | hp
      · exact ⟨fun q hq => allLt_all o2.2.2.2.2.2.2 q (by k_data), o2.2.2.2.2.1⟩
      rcases List.mem_cons.mp hp with rfl | hp
      · exact ⟨fun q hq => allLt_all o1.2.2.2.2.2 q (by k_data), o1.2.2.2.1⟩
      rcases List.mem_cons.mp hp with rfl | hp
      · exact ⟨fun q hq => lt6 _ (.head _) q (by k_data), Nat.lt_trans lp1 (lt6 _ (.head _) (lp, listOf pv.toArray e') (by k_data))⟩
      rcases List.mem_cons.mp hp with rfl | hp
      · exact ⟨fun q hq => lp2 q hq, lp1⟩
      rcases List.mem_append.mp hp with hp | hp
      · exact ⟨fun q hq => lt6 p (.tail _ hp) q (by k_data), Nat.lt_trans lp1 (lt6 p (.tail _ hp) (lp, listOf pv.toArray e') (by k_data))⟩
      rcases List.mem_append.mp hp with hp | hp
      · exact ⟨fun q hq => lt7 p hp q (by k_data), Nat.lt_trans lp1 (lt7 p hp (lp, listOf pv.toArray e') (by k_data))⟩
      · exact ⟨(gt9 p hp).1, (gt9 p hp).2.1⟩
    refine hret _ ((Dt, tupO [.int (qF pr number) tl, .int (dval (Int.toNat 2) (pF pr number)) tw]) :: (D1, listOf ws.toArray 0) :: (D2, listOf (List.toArray (List.replicate (((pF pr number).length : Int) - (ds6.length : Int)).toNat [Value.int 0 tk0]).flatten) 0) :: (l1a, listOf #[.int 0 tk0] 0) :: (l6, lstO vs6) :: (lp, listOf pv.toArray e') :: (more6 ++ (add7 ++ add))) t16 t26 _ _ (by k_asm) (news_perm (by k_asm) ?_) (fun p hp => (hall p hp).1) (fun p hp => (hall p hp).2) ?_ ?_ ⟨?_, ?_⟩
    · k_slotset
    · exact ok16.mono (by simp only [List.cons_append, List.append_assoc]; k_slotset)
    · exact ok26.mono (by simp only [List.cons_append, List.append_assoc]; k_slotset)
    · rintro ⟨k, hk, h0⟩
      have := hpos k (by rw [hpr]; exact List.mem_reverse.mpr hk)
      omega
    · intro _
      rw [← hpr]
      exact ⟨_, _, _, _, rfl, rfl⟩
  · rintro v r m9 news9 ⟨pr, rs, pv, tl, e', t1', t2', add, ir, hpr, hpos, ip, hml, hmn, hmp, rfl, gt9, ok1', ok2', lp1, lp2⟩ it h8 tk8 hit F8 N8
    cases ir with
    | @cons kd td _ rs' ir =>
    obtain ⟨hk4, hkix⟩ := hok kd (List.mem_reverse.mp (by rw [← hpr]; simp))
    try dsimp only
    try k_fold
    (repeat' (first | (k_unfold; (try dsimp only)) | (first | with_reducible ((k_here; (with_reducible show wpAny _ _ (compareOp CmpOp.Eq (Value.ref _) (Value.ref _)) _ _ _); (with_unfolding_all refine' eq_intsK (News.isList (by k_asm) (by k_mem)) (by first | assumption | exact IntsAre.nil) (News.isList (by k_asm) (by k_mem)) (by first | assumption | exact IntsAre.nil) (by units_room) ?_); (try rw [pF_dec]))) | ((k_here; (with_reducible show wpAny _ _ (compareOp CmpOp.Eq (Value.ref _) (Value.ref _)) _ _ _); (with_unfolding_all refine' eq_intsK (News.isList (by k_asm) (by k_mem)) (by first | assumption | exact IntsAre.nil) (News.isList (by k_asm) (by k_mem)) (by first | assumption | exact IntsAre.nil) (by units_room) ?_); (try rw [pF_dec])))) | (first | with_reducible ((k_here; (with_reducible show wpAny _ _ (noteFrame _ _) (fun _ s₂ => wpAny _ _ (setFlight _ none) (fun _ s₃ => wpAny _ _ (handleBy _ _ (ExceptHandler.ExceptHandler (some (Expr.Name ("ZeroDivisionError" : Str) _)) none _ _ :: _)) _ _ s₃) _ s₂) _ _); k_dflt (refine' caught_S0 (T' := "ZeroDivisionError") ?R ?F ?K ?U ?XB ?TB ?D ?T0 ?ex PyProof.Rows.Boot.«ZeroDivisionError» ?hn PySem.F.isExc_ZeroDivisionError PySem.F.notTuple_ZeroDivisionError ?hs ?_; (case R => assumption); (case F => assumption); (case K => assumption); (case U => assumption); (case XB => assumption); (case TB => assumption); (case D => assumption); (case T0 => exact KtsTurn.refl); (case hs => (rw [isSubtype_type]; kernel_rfl!)); (case ex => k_is); (case hn => decide); k_whole); intro _ _ _ _ _ _ _ _ _ _ _ _; (try k_sweep))) | ((k_here; (with_reducible show wpAny _ _ (noteFrame _ _) (fun _ s₂ => wpAny _ _ (setFlight _ none) (fun _ s₃ => wpAny _ _ (handleBy _ _ (ExceptHandler.ExceptHandler (some (Expr.Name ("ZeroDivisionError" : Str) _)) none _ _ :: _)) _ _ s₃) _ s₂) _ _); k_dflt (refine' caught_S0 (T' := "ZeroDivisionError") ?R ?F ?K ?U ?XB ?TB ?D ?T0 ?ex PyProof.Rows.Boot.«ZeroDivisionError» ?hn PySem.F.isExc_ZeroDivisionError PySem.F.notTuple_ZeroDivisionError ?hs ?_; (case R => assumption); (case F => assumption); (case K => assumption); (case U => assumption); (case XB => assumption); (case TB => assumption); (case D => assumption); (case T0 => exact KtsTurn.refl); (case hs => (rw [isSubtype_type]; kernel_rfl!)); (case ex => k_is); (case hn => decide); k_whole); intro _ _ _ _ _ _ _ _ _ _ _ _; (try k_sweep)))) | ((with_reducible show wpAny _ _ (leaving _ (Value.ref _)) _ _ _); (first | with_reducible ((k_here; (refine' leave_raiseS ?k1 ?k0 ?k2 ?k3 ?_; (case k0 => first | assumption | exact Heap.MadeExc.of (by assumption)); (case k2 => assumption); (case k1 => assumption); (case k3 => k_asm); k_whole; intro _ _ S' R' U'; (try dsimp only at S' R' U' ⊢))); (try (revert S' R' U'; intro _ _ _))) | ((k_here; (refine' leave_raiseS ?k1 ?k0 ?k2 ?k3 ?_; (case k0 => first | assumption | exact Heap.MadeExc.of (by assumption)); (case k2 => assumption); (case k1 => assumption); (case k3 => k_asm); k_whole; intro _ _ S' R' U'; (try dsimp only at S' R' U' ⊢))); (try (revert S' R' U'; intro _ _ _))))) | ((with_reducible show wpAny _ _ (call (Value.builtin "str.index") _) _ _ _); (first | with_reducible ((k_here; (refine index_or (by rfl) (fun hF9 _ => (ix_absurd (by with_reducible assumption) (by omega) (by omega) hF9).elim) ?_); (intro _ _))) | ((k_here; (refine index_or (by rfl) (fun hF9 _ => (ix_absurd (by with_reducible assumption) (by omega) (by omega) hF9).elim) ?_); (intro _ _))))) | (first | with_reducible ((k_here; (with_reducible show wpAny _ _ (subscriptTail _ _ (Value.str _ _) (Value.int _ _)) _ _ _); (refine KXi.item rfl (by omega) (by omega) (by omega) ?_); intro _)) | ((k_here; (with_reducible show wpAny _ _ (subscriptTail _ _ (Value.str _ _) (Value.int _ _)) _ _ _); (refine KXi.item rfl (by omega) (by omega) (by omega) ?_); intro _))) | ((with_reducible show wpAny _ _ (call (Value.builtin "len") _) _ _ _); (first | with_reducible ((k_here; (with_reducible show wpAny _ _ (call (Value.builtin _) [Value.str _ _]) _ _ _); (refine len_str (by omega) ?_))) | ((k_here; (with_reducible show wpAny _ _ (call (Value.builtin _) [Value.str _ _]) _ _ _); (refine len_str (by omega) ?_))))) | (first | with_reducible ((k_here; (with_reducible show wpAny _ _ (exec (Stmt.Raise (some (Expr.Name ("ZeroDivisionError" : Str) _)) none _) _) _ _ _); (with_reducible rename Fr _ _ _ _ => kF); k_dflt (refine' raiseZ ?hh ?hx ?_; (case hh => rfl); (case hx => (refine' name_B kF ?k1 ?k2 ?k3 ?k4 ?k5 ?_; (case k1 => k_asm); (case k2 => k_asm); (case k3 => k_is); (case k4 => boot_by_name); (case k5 => decide); exact ⟨rfl, rfl⟩))); intro _ _ _)) | ((k_here; (with_reducible show wpAny _ _ (exec (Stmt.Raise (some (Expr.Name ("ZeroDivisionError" : Str) _)) none _) _) _ _ _); (with_reducible rename Fr _ _ _ _ => kF); k_dflt (refine' raiseZ ?hh ?hx ?_; (case hh => rfl); (case hx => (refine' name_B kF ?k1 ?k2 ?k3 ?k4 ?k5 ?_; (case k1 => k_asm); (case k2 => k_asm); (case k3 => k_is); (case k4 => boot_by_name); (case k5 => decide); exact ⟨rfl, rfl⟩))); intro _ _ _))) | ((with_reducible show wpAny _ _ (call (Value.builtin "list.append") _) _ _ _); (first | with_reducible ((k_here; (with_reducible show wpAny _ _ (call (Value.builtin _) [Value.ref _, _]) _ _ _); k_dflt (refine' app_K (by k_asm) (by k_asm) (by k_upd) (by first | with_reducible assumption | omega | assumption) ?_); intro _ _ _; (try k_sweep))) | ((k_here; (with_reducible show wpAny _ _ (call (Value.builtin _) [Value.ref _, _]) _ _ _); k_dflt (refine' app_K (by k_asm) (by k_asm) (by k_upd) (by first | with_reducible assumption | omega | assumption) ?_); intro _ _ _; (try k_sweep))))) | (k_end; wrow_close) | ((fail_if_success (with_reducible show wpAny _ _ (call (Value.ref _) _) _ _ _)); walk1) | ((fail_if_success (show wpAny _ _ (call (Value.ref _) _) _ _ _)); dsimp only; walk1) | (leave1; walk_say "STEP leave1"; try dsimp only) | fail "no step"))
    have hpvl : pv.length ≤ 4 := by
      have h1 := ip.length
      rw [pF_len] at h1
      have h2 := congrArg List.length hpr
      simp at h2
      omega
    have hpv1000 : pv.length ≤ 1000 := by omega
    have hqr := qF_range pr number hpos (by omega) (by omega)
    have hlp9 := ltN lp1
    by_cases hz : (kd.length : Int) = 0
    · rw [hz]
      (repeat' (first | (k_unfold; (try dsimp only)) | (first | with_reducible ((k_here; (with_reducible show wpAny _ _ (compareOp CmpOp.Eq (Value.ref _) (Value.ref _)) _ _ _); (with_unfolding_all refine' eq_intsK (News.isList (by k_asm) (by k_mem)) (by first | assumption | exact IntsAre.nil) (News.isList (by k_asm) (by k_mem)) (by first | assumption | exact IntsAre.nil) (by units_room) ?_); (try rw [pF_dec]))) | ((k_here; (with_reducible show wpAny _ _ (compareOp CmpOp.Eq (Value.ref _) (Value.ref _)) _ _ _); (with_unfolding_all refine' eq_intsK (News.isList (by k_asm) (by k_mem)) (by first | assumption | exact IntsAre.nil) (News.isList (by k_asm) (by k_mem)) (by first | assumption | exact IntsAre.nil) (by units_room) ?_); (try rw [pF_dec])))) | (first | with_reducible ((k_here; (with_reducible show wpAny _ _ (noteFrame _ _) (fun _ s₂ => wpAny _ _ (setFlight _ none) (fun _ s₃ => wpAny _ _ (handleBy _ _ (ExceptHandler.ExceptHandler (some (Expr.Name ("ZeroDivisionError" : Str) _)) none _ _ :: _)) _ _ s₃) _ s₂) _ _); k_dflt (refine' caught_S0 (T' := "ZeroDivisionError") ?R ?F ?K ?U ?XB ?TB ?D ?T0 ?ex PyProof.Rows.Boot.«ZeroDivisionError» ?hn PySem.F.isExc_ZeroDivisionError PySem.F.notTuple_ZeroDivisionError ?hs ?_; (case R => assumption); (case F => assumption); (case K => assumption); (case U => assumption); (case XB => assumption); (case TB => assumption); (case D => assumption); (case T0 => exact KtsTurn.refl); (case hs => (rw [isSubtype_type]; kernel_rfl!)); (case ex => k_is); (case hn => decide); k_whole); intro _ _ _ _ _ _ _ _ _ _ _ _; (try k_sweep))) | ((k_here; (with_reducible show wpAny _ _ (noteFrame _ _) (fun _ s₂ => wpAny _ _ (setFlight _ none) (fun _ s₃ => wpAny _ _ (handleBy _ _ (ExceptHandler.ExceptHandler (some (Expr.Name ("ZeroDivisionError" : Str) _)) none _ _ :: _)) _ _ s₃) _ s₂) _ _); k_dflt (refine' caught_S0 (T' := "ZeroDivisionError") ?R ?F ?K ?U ?XB ?TB ?D ?T0 ?ex PyProof.Rows.Boot.«ZeroDivisionError» ?hn PySem.F.isExc_ZeroDivisionError PySem.F.notTuple_ZeroDivisionError ?hs ?_; (case R => assumption); (case F => assumption); (case K => assumption); (case U => assumption); (case XB => assumption); (case TB => assumption); (case D => assumption); (case T0 => exact KtsTurn.refl); (case hs => (rw [isSubtype_type]; kernel_rfl!)); (case ex => k_is); (case hn => decide); k_whole); intro _ _ _ _ _ _ _ _ _ _ _ _; (try k_sweep)))) | ((with_reducible show wpAny _ _ (leaving _ (Value.ref _)) _ _ _); (first | with_reducible ((k_here; (refine' leave_raiseS ?k1 ?k0 ?k2 ?k3 ?_; (case k0 => first | assumption | exact Heap.MadeExc.of (by assumption)); (case k2 => assumption); (case k1 => assumption); (case k3 => k_asm); k_whole; intro _ _ S' R' U'; (try dsimp only at S' R' U' ⊢))); (try (revert S' R' U'; intro _ _ _))) | ((k_here; (refine' leave_raiseS ?k1 ?k0 ?k2 ?k3 ?_; (case k0 => first | assumption | exact Heap.MadeExc.of (by assumption)); (case k2 => assumption); (case k1 => assumption); (case k3 => k_asm); k_whole; intro _ _ S' R' U'; (try dsimp only at S' R' U' ⊢))); (try (revert S' R' U'; intro _ _ _))))) | ((with_reducible show wpAny _ _ (call (Value.builtin "str.index") _) _ _ _); (first | with_reducible ((k_here; (refine index_or (by rfl) (fun hF9 _ => (ix_absurd (by with_reducible assumption) (by omega) (by omega) hF9).elim) ?_); (intro _ _))) | ((k_here; (refine index_or (by rfl) (fun hF9 _ => (ix_absurd (by with_reducible assumption) (by omega) (by omega) hF9).elim) ?_); (intro _ _))))) | (first | with_reducible ((k_here; (with_reducible show wpAny _ _ (subscriptTail _ _ (Value.str _ _) (Value.int _ _)) _ _ _); (refine KXi.item rfl (by omega) (by omega) (by omega) ?_); intro _)) | ((k_here; (with_reducible show wpAny _ _ (subscriptTail _ _ (Value.str _ _) (Value.int _ _)) _ _ _); (refine KXi.item rfl (by omega) (by omega) (by omega) ?_); intro _))) | ((with_reducible show wpAny _ _ (call (Value.builtin "len") _) _ _ _); (first | with_reducible ((k_here; (with_reducible show wpAny _ _ (call (Value.builtin _) [Value.str _ _]) _ _ _); (refine len_str (by omega) ?_))) | ((k_here; (with_reducible show wpAny _ _ (call (Value.builtin _) [Value.str _ _]) _ _ _); (refine len_str (by omega) ?_))))) | (first | with_reducible ((k_here; (with_reducible show wpAny _ _ (exec (Stmt.Raise (some (Expr.Name ("ZeroDivisionError" : Str) _)) none _) _) _ _ _); (with_reducible rename Fr _ _ _ _ => kF); k_dflt (refine' raiseZ ?hh ?hx ?_; (case hh => rfl); (case hx => (refine' name_B kF ?k1 ?k2 ?k3 ?k4 ?k5 ?_; (case k1 => k_asm); (case k2 => k_asm); (case k3 => k_is); (case k4 => boot_by_name); (case k5 => decide); exact ⟨rfl, rfl⟩))); intro _ _ _)) | ((k_here; (with_reducible show wpAny _ _ (exec (Stmt.Raise (some (Expr.Name ("ZeroDivisionError" : Str) _)) none _) _) _ _ _); (with_reducible rename Fr _ _ _ _ => kF); k_dflt (refine' raiseZ ?hh ?hx ?_; (case hh => rfl); (case hx => (refine' name_B kF ?k1 ?k2 ?k3 ?k4 ?k5 ?_; (case k1 => k_asm); (case k2 => k_asm); (case k3 => k_is); (case k4 => boot_by_name); (case k5 => decide); exact ⟨rfl, rfl⟩))); intro _ _ _))) | ((with_reducible show wpAny _ _ (call (Value.builtin "list.append") _) _ _ _); (first | with_reducible ((k_here; (with_reducible show wpAny _ _ (call (Value.builtin _) [Value.ref _, _]) _ _ _); k_dflt (refine' app_K (by k_asm) (by k_asm) (by k_upd) (by first | with_reducible assumption | omega | assumption) ?_); intro _ _ _; (try k_sweep))) | ((k_here; (with_reducible show wpAny _ _ (call (Value.builtin _) [Value.ref _, _]) _ _ _); k_dflt (refine' app_K (by k_asm) (by k_asm) (by k_upd) (by first | with_reducible assumption | omega | assumption) ?_); intro _ _ _; (try k_sweep))))) | (k_end; wrow_close) | walk1 | (dsimp only; walk1) | (leave1; walk_say "STEP leave1"; try dsimp only) | fail "no step"))
      refine hret _ ((Dq, it) :: (lp, listOf pv.toArray e') :: add) t1' t2' _ _ (by k_asm) (news_perm (by k_asm) ?_) ?_ ?_ ?_ ?_ ⟨fun _ => ⟨_, rfl⟩, fun h => absurd (h kd (List.mem_reverse.mp (by rw [← hpr]; simp))) (by omega)⟩
      · k_slotset
      · intro p hp q hq
        rcases List.mem_cons.mp hp with rfl | hp
        · exact allLt_all hDrest q hq
        · rcases List.mem_cons.mp hp with rfl | hp
          · exact lp2 q hq
          · exact (gt9 p hp).1 q hq
      · intro p hp
        rcases List.mem_cons.mp hp with rfl | hp
        · exact Nat.lt_trans lp1 l1d.1
        · rcases List.mem_cons.mp hp with rfl | hp
          · exact lp1
          · exact (gt9 p hp).2.1
      · exact ok1'.mono fun p hp => by simp only [List.cons_append, List.mem_cons]; exact .inr (.inr hp)
      · exact ok2'.mono fun p hp => by simp only [List.cons_append, List.mem_cons]; exact .inr (.inr hp)
    · have hfar : ∀ p ∈ (Dq, it) :: (lp, listOf pv.toArray e') :: (lrow, listOf kv.toArray e) :: (add ++ rest), p.1 ≠ 54 ∧ p.1 ≠ 47 := by
        intro p hp
        simp only [List.mem_cons, List.mem_append] at hp
        rcases hp with rfl | rfl | rfl | hp | hp
        · exact ne2 (Nat.lt_trans lp1 l1d.1)
        · exact ne2 lp1
        · exact hne _ hrow
        · exact ne2 (gt9 p hp).2.1
        · exact hne p hp
      k_dflt (refine' (divmod3 _ _ _ _ ?z1 ?z2 ?z3 ?z4) _ _ _ _ _ _ _ _ _ _ _ _ _ _ _ _ _ _ _ _ _ ?le1 ?le2 ?B ?F ?X ?N ?TT ?k ?c1 ?c2 ?ne ?hL ?ok1 ?ok2 ?hK trivial ?_)
      case B => k_asm
      case F => k_asm
      case X => k_asm
      case N => exact news_bring (news_bring N8 4 rfl) 4 rfl
      case TT => k_asm
      case k => exact rfl
      case c1 => assumption
      case c2 => assumption
      case ne => exact hfar
      case hL => exact Nat.lt_trans hL hLL
      case ok1 => exact ok1'
      case ok2 => exact ok2'
      case hK =>
        intro p hp
        simp only [List.eraseIdx_cons_succ, List.eraseIdx_cons_zero, List.mem_cons]
        exact .inr (.inr (.inr ((List.mem_append.mp hp).elim (fun h => List.mem_append_left _ h) (fun h => List.mem_append_right _ (hK p h)))))
      case le1 => show 337 ≤ 346; decide
      case le2 => show 39 ≤ 46; decide
      case z1 => omega
      case z2 => omega
      case z3 => omega
      case z4 => omega
      intro r7 add7 t17 t27 h7 tk7 F7 N7 lt7 gt7 ok17 ok27 res7
      simp only [List.eraseIdx_cons_succ, List.eraseIdx_cons_zero] at N7 lt7 ok17 ok27
      try dsimp only
      try k_fold
      obtain ⟨l7, ta7, tb7, more7, rfl, rfl⟩ := res7
      simp only [List.cons_append] at N7 ok17 ok27
      replace N7 := news_perm (news' := (l7, tupO [.int ((qF pr number).fdiv kd.length) ta7, .int ((qF pr number).fmod kd.length) tb7]) :: (Dq, it) :: (lp, listOf pv.toArray e') :: (lrow, listOf kv.toArray e) :: (54, t17) :: (47, t27) :: (more7 ++ (add ++ rest))) N7 (by k_slotset)
      have hkp : (0 : Int) < kd.length := by omega
      have hm0 := Int.fmod_nonneg_of_pos (qF pr number) hkp
      have hm1 := Int.fmod_lt_of_pos (qF pr number) hkp
      have hoff : ∀ p ∈ more7 ++ (add ++ rest), p.1 ≠ lp := by
        intro p hp
        simp only [List.mem_append] at hp
        rcases hp with hp | hp | hp
        · exact Nat.ne_of_gt (lt7 p (.tail _ hp) (lp, listOf pv.toArray e') (by k_data))
        · exact fun h => (gt9 p hp).2.2.1 h.symm
        · exact Nat.ne_of_lt (lp2 p hp)
      have hl7 := ltN (lt7 _ (.head _) (lp, listOf pv.toArray e') (by k_data))
      dsimp only at hl7
      have h7 : ∀ p ∈ (l7, tupO [.int ((qF pr number).fdiv kd.length) ta7, .int ((qF pr number).fmod kd.length) tb7]) :: (more7 ++ add), FarP lp Dq rest p := by
        intro p hp
        rw [← List.cons_append] at hp
        rcases List.mem_append.mp hp with hp | hp
        · have e1 := lt7 p hp (lp, listOf pv.toArray e') (by k_data)
          have e2 := lt7 p hp (Dq, it) (by k_data)
          exact ⟨fun q hq => lt7 p hp q (by k_data), Nat.lt_trans lp1 e1, Nat.ne_of_lt e1, Nat.ne_of_lt e2⟩
        · exact gt9 p hp
      cases pr with
      | nil =>
        cases ip
        (repeat' (first | (k_unfold; (try dsimp only)) | (first | with_reducible ((k_here; (with_reducible show wpAny _ _ (compareOp CmpOp.Eq (Value.ref _) (Value.ref _)) _ _ _); (with_unfolding_all refine' eq_intsK (News.isList (by k_asm) (by k_mem)) (by first | assumption | exact IntsAre.nil) (News.isList (by k_asm) (by k_mem)) (by first | assumption | exact IntsAre.nil) (by units_room) ?_); (try rw [pF_dec]))) | ((k_here; (with_reducible show wpAny _ _ (compareOp CmpOp.Eq (Value.ref _) (Value.ref _)) _ _ _); (with_unfolding_all refine' eq_intsK (News.isList (by k_asm) (by k_mem)) (by first | assumption | exact IntsAre.nil) (News.isList (by k_asm) (by k_mem)) (by first | assumption | exact IntsAre.nil) (by units_room) ?_); (try rw [pF_dec])))) | (first | with_reducible ((k_here; (with_reducible show wpAny _ _ (noteFrame _ _) (fun _ s₂ => wpAny _ _ (setFlight _ none) (fun _ s₃ => wpAny _ _ (handleBy _ _ (ExceptHandler.ExceptHandler (some (Expr.Name ("ZeroDivisionError" : Str) _)) none _ _ :: _)) _ _ s₃) _ s₂) _ _); k_dflt (refine' caught_S0 (T' := "ZeroDivisionError") ?R ?F ?K ?U ?XB ?TB ?D ?T0 ?ex PyProof.Rows.Boot.«ZeroDivisionError» ?hn PySem.F.isExc_ZeroDivisionError PySem.F.notTuple_ZeroDivisionError ?hs ?_; (case R => assumption); (case F => assumption); (case K => assumption); (case U => assumption); (case XB => assumption); (case TB => assumption); (case D => assumption); (case T0 => exact KtsTurn.refl); (case hs => (rw [isSubtype_type]; kernel_rfl!)); (case ex => k_is); (case hn => decide); k_whole); intro _ _ _ _ _ _ _ _ _ _ _ _; (try k_sweep))) | ((k_here; (with_reducible show wpAny _ _ (noteFrame _ _) (fun _ s₂ => wpAny _ _ (setFlight _ none) (fun _ s₃ => wpAny _ _ (handleBy _ _ (ExceptHandler.ExceptHandler (some (Expr.Name ("ZeroDivisionError" : Str) _)) none _ _ :: _)) _ _ s₃) _ s₂) _ _); k_dflt (refine' caught_S0 (T' := "ZeroDivisionError") ?R ?F ?K ?U ?XB ?TB ?D ?T0 ?ex PyProof.Rows.Boot.«ZeroDivisionError» ?hn PySem.F.isExc_ZeroDivisionError PySem.F.notTuple_ZeroDivisionError ?hs ?_; (case R => assumption); (case F => assumption); (case K => assumption); (case U => assumption); (case XB => assumption); (case TB => assumption); (case D => assumption); (case T0 => exact KtsTurn.refl); (case hs => (rw [isSubtype_type]; kernel_rfl!)); (case ex => k_is); (case hn => decide); k_whole); intro _ _ _ _ _ _ _ _ _ _ _ _; (try k_sweep)))) | ((with_reducible show wpAny _ _ (leaving _ (Value.ref _)) _ _ _); (first | with_reducible ((k_here; (refine' leave_raiseS ?k1 ?k0 ?k2 ?k3 ?_; (case k0 => first | assumption | exact Heap.MadeExc.of (by assumption)); (case k2 => assumption); (case k1 => assumption); (case k3 => k_asm); k_whole; intro _ _ S' R' U'; (try dsimp only at S' R' U' ⊢))); (try (revert S' R' U'; intro _ _ _))) | ((k_here; (refine' leave_raiseS ?k1 ?k0 ?k2 ?k3 ?_; (case k0 => first | assumption | exact Heap.MadeExc.of (by assumption)); (case k2 => assumption); (case k1 => assumption); (case k3 => k_asm); k_whole; intro _ _ S' R' U'; (try dsimp only at S' R' U' ⊢))); (try (revert S' R' U'; intro _ _ _))))) | ((with_reducible show wpAny _ _ (call (Value.builtin "str.index") _) _ _ _); (first | with_reducible ((k_here; (refine index_or (by rfl) (fun hF9 _ => (ix_absurd (by with_reducible assumption) (by omega) (by omega) hF9).elim) ?_); (intro _ _))) | ((k_here; (refine index_or (by rfl) (fun hF9 _ => (ix_absurd (by with_reducible assumption) (by omega) (by omega) hF9).elim) ?_); (intro _ _))))) | (first | with_reducible ((k_here; (with_reducible show wpAny _ _ (subscriptTail _ _ (Value.str _ _) (Value.int _ _)) _ _ _); (refine KXi.item rfl (by omega) (by omega) (by omega) ?_); intro _)) | ((k_here; (with_reducible show wpAny _ _ (subscriptTail _ _ (Value.str _ _) (Value.int _ _)) _ _ _); (refine KXi.item rfl (by omega) (by omega) (by omega) ?_); intro _))) | ((with_reducible show wpAny _ _ (call (Value.builtin "len") _) _ _ _); (first | with_reducible ((k_here; (with_reducible show wpAny _ _ (call (Value.builtin _) [Value.str _ _]) _ _ _); (refine len_str (by omega) ?_))) | ((k_here; (with_reducible show wpAny _ _ (call (Value.builtin _) [Value.str _ _]) _ _ _); (refine len_str (by omega) ?_))))) | (first | with_reducible ((k_here; (with_reducible show wpAny _ _ (exec (Stmt.Raise (some (Expr.Name ("ZeroDivisionError" : Str) _)) none _) _) _ _ _); (with_reducible rename Fr _ _ _ _ => kF); k_dflt (refine' raiseZ ?hh ?hx ?_; (case hh => rfl); (case hx => (refine' name_B kF ?k1 ?k2 ?k3 ?k4 ?k5 ?_; (case k1 => k_asm); (case k2 => k_asm); (case k3 => k_is); (case k4 => boot_by_name); (case k5 => decide); exact ⟨rfl, rfl⟩))); intro _ _ _)) | ((k_here; (with_reducible show wpAny _ _ (exec (Stmt.Raise (some (Expr.Name ("ZeroDivisionError" : Str) _)) none _) _) _ _ _); (with_reducible rename Fr _ _ _ _ => kF); k_dflt (refine' raiseZ ?hh ?hx ?_; (case hh => rfl); (case hx => (refine' name_B kF ?k1 ?k2 ?k3 ?k4 ?k5 ?_; (case k1 => k_asm); (case k2 => k_asm); (case k3 => k_is); (case k4 => boot_by_name); (case k5 => decide); exact ⟨rfl, rfl⟩))); intro _ _ _))) | ((with_reducible show wpAny _ _ (call (Value.builtin "list.append") _) _ _ _); (first | with_reducible ((k_here; (with_reducible show wpAny _ _ (call (Value.builtin _) [Value.ref _, _]) _ _ _); k_dflt (refine' app_K (by k_asm) (by k_asm) (by k_upd) (by first | with_reducible assumption | omega | assumption) ?_); intro _ _ _; (try k_sweep))) | ((k_here; (with_reducible show wpAny _ _ (call (Value.builtin _) [Value.ref _, _]) _ _ _); k_dflt (refine' app_K (by k_asm) (by k_asm) (by k_upd) (by first | with_reducible assumption | omega | assumption) ?_); intro _ _ _; (try k_sweep))))) | (k_end; wrow_close) | ((fail_if_success (with_reducible show wpAny _ _ (call (Value.ref _) _) _ _ _)); walk1) | ((fail_if_success (show wpAny _ _ (call (Value.ref _) _) _ _ _)); dsimp only; walk1) | (leave1; walk_say "STEP leave1"; try dsimp only) | fail "no step"))
        rename _ ∧ _ ∧ _ ∧ _ ∧ _ ∧ _ ∧ AllLt _ _ => hl1
        have hfar2 : ∀ p ∈ (l7, tupO [.int ((qF [] number).fdiv kd.length) ta7, .int ((qF [] number).fmod kd.length) tb7]) :: (Dq, it) :: (lp, listOf #[] e') :: (lrow, listOf kv.toArray e) :: (more7 ++ (add ++ rest)), p.1 ≠ 54 ∧ p.1 ≠ 47 := by
          intro p hp
          simp only [List.mem_cons, List.mem_append] at hp
          rcases hp with rfl | hp | hp | hp | hp | hp
          · exact ne2 (Nat.lt_trans hL54 (gt7 _ (.head _)))
          · exact hfar _ (by simp [hp])
          · exact hfar _ (by simp [hp])
          · exact hfar _ (by simp [hp])
          · exact ne2 (Nat.lt_trans hL54 (gt7 _ (.tail _ hp)))
          · exact hfar _ (by simp only [List.mem_cons, List.mem_append]; exact .inr (.inr (.inr hp)))
        k_dflt (refine' (divmod4 _ _ _ _ ?z1 ?z2 ?z3 ?z4) _ _ _ _ _ _ _ _ _ _ _ _ _ _ _ _ _ _ _ _ _ ?le1 ?le2 ?B ?F ?X ?N ?TT ?k ?c1 ?c2 ?ne ?hL ?ok1 ?ok2 ?hK trivial ?_)
        case B => k_asm
        case F => k_asm
        case X => k_asm
        case N => exact news_bring (news_bring (by k_asm) 6 rfl) 6 rfl
        case TT => k_asm
        case k => exact rfl
        case c1 => assumption
        case c2 => assumption
        case ne =>
          intro p hp
          rcases List.mem_cons.mp hp with rfl | hp
          · exact ne2 (Nat.lt_trans lp1 hl1.2.2.1)
          · exact hfar2 p hp
        case hL => exact Nat.lt_trans hL hLL
        case ok1 => exact ok17
        case ok2 => exact ok27
        case hK =>
          simp only [List.eraseIdx_cons_succ, List.eraseIdx_cons_zero]
          k_slotset
        case le1 => show 337 ≤ 342; decide
        case le2 => show 39 ≤ 42; decide
        case z1 => omega
        case z2 => omega
        case z3 => omega
        case z4 => omega
        intro r6 add6 t16 t26 h6 tk6 F6 N6 lt6 gt6 ok16 ok26 res6
        simp only [List.eraseIdx_cons_succ, List.eraseIdx_cons_zero] at N6 lt6 ok16 ok26
        try dsimp only
        try k_fold
        obtain ⟨l6, ta6, tb6, more6, rfl, rfl⟩ := res6
        simp only [List.cons_append] at N6 ok16 ok26
        rename_i ln _ _ _
        replace N6 := news_perm (news' := (l6, tupO [.int ((- -number).fdiv (- -kd.length)) ta6, .int (-((- -number).fmod (- -kd.length))) tb6]) :: (ln, listOf #[] 0) :: (l7, tupO [.int ((qF [] number).fdiv kd.length) ta7, .int ((qF [] number).fmod kd.length) tb7]) :: (Dq, it) :: (lp, listOf #[] e') :: (lrow, listOf kv.toArray e) :: (54, t16) :: (47, t26) :: (more6 ++ (more7 ++ (add ++ rest)))) N6 (by k_slotset)
        have hl6 := ltN (lt6 _ (.head _) (lp, listOf #[] e') (by k_data))
        dsimp only at hl6
        have hoff6 : ∀ p ∈ more6 ++ (more7 ++ (add ++ rest)), p.1 ≠ lp := by
          intro p hp
          rcases List.mem_append.mp hp with hp | hp
          · exact Nat.ne_of_gt (lt6 p (.tail _ hp) (lp, listOf #[] e') (by k_data))
          · exact hoff p hp
        have hne9 : ((- -number).fdiv (- -(kd.length : Int)) == (qF [] number).fdiv kd.length && -((- -number).fmod (- -(kd.length : Int))) == -((qF [] number).fmod kd.length)) = true := by simp [qF]
        (repeat' (first | (k_unfold; (try dsimp only)) | (first | with_reducible ((k_here; (with_reducible show wpAny _ _ (compareOp CmpOp.Eq (Value.ref _) (Value.ref _)) _ _ _); (with_unfolding_all refine' eq_intsK (News.isList (by k_asm) (by k_mem)) (by first | assumption | exact IntsAre.nil) (News.isList (by k_asm) (by k_mem)) (by first | assumption | exact IntsAre.nil) (by units_room) ?_); (try rw [pF_dec]))) | ((k_here; (with_reducible show wpAny _ _ (compareOp CmpOp.Eq (Value.ref _) (Value.ref _)) _ _ _); (with_unfolding_all refine' eq_intsK (News.isList (by k_asm) (by k_mem)) (by first | assumption | exact IntsAre.nil) (News.isList (by k_asm) (by k_mem)) (by first | assumption | exact IntsAre.nil) (by units_room) ?_); (try rw [pF_dec])))) | (first | with_reducible ((k_here; (with_reducible show wpAny _ _ (noteFrame _ _) (fun _ s₂ => wpAny _ _ (setFlight _ none) (fun _ s₃ => wpAny _ _ (handleBy _ _ (ExceptHandler.ExceptHandler (some (Expr.Name ("ZeroDivisionError" : Str) _)) none _ _ :: _)) _ _ s₃) _ s₂) _ _); k_dflt (refine' caught_S0 (T' := "ZeroDivisionError") ?R ?F ?K ?U ?XB ?TB ?D ?T0 ?ex PyProof.Rows.Boot.«ZeroDivisionError» ?hn PySem.F.isExc_ZeroDivisionError PySem.F.notTuple_ZeroDivisionError ?hs ?_; (case R => assumption); (case F => assumption); (case K => assumption); (case U => assumption); (case XB => assumption); (case TB => assumption); (case D => assumption); (case T0 => exact KtsTurn.refl); (case hs => (rw [isSubtype_type]; kernel_rfl!)); (case ex => k_is); (case hn => decide); k_whole); intro _ _ _ _ _ _ _ _ _ _ _ _; (try k_sweep))) | ((k_here; (with_reducible show wpAny _ _ (noteFrame _ _) (fun _ s₂ => wpAny _ _ (setFlight _ none) (fun _ s₃ => wpAny _ _ (handleBy _ _ (ExceptHandler.ExceptHandler (some (Expr.Name ("ZeroDivisionError" : Str) _)) none _ _ :: _)) _ _ s₃) _ s₂) _ _); k_dflt (refine' caught_S0 (T' := "ZeroDivisionError") ?R ?F ?K ?U ?XB ?TB ?D ?T0 ?ex PyProof.Rows.Boot.«ZeroDivisionError» ?hn PySem.F.isExc_ZeroDivisionError PySem.F.notTuple_ZeroDivisionError ?hs ?_; (case R => assumption); (case F => assumption); (case K => assumption); (case U => assumption); (case XB => assumption); (case TB => assumption); (case D => assumption); (case T0 => exact KtsTurn.refl); (case hs => (rw [isSubtype_type]; kernel_rfl!)); (case ex => k_is); (case hn => decide); k_whole); intro _ _ _ _ _ _ _ _ _ _ _ _; (try k_sweep)))) | ((with_reducible show wpAny _ _ (leaving _ (Value.ref _)) _ _ _); (first | with_reducible ((k_here; (refine' leave_raiseS ?k1 ?k0 ?k2 ?k3 ?_; (case k0 => first | assumption | exact Heap.MadeExc.of (by assumption)); (case k2 => assumption); (case k1 => assumption); (case k3 => k_asm); k_whole; intro _ _ S' R' U'; (try dsimp only at S' R' U' ⊢))); (try (revert S' R' U'; intro _ _ _))) | ((k_here; (refine' leave_raiseS ?k1 ?k0 ?k2 ?k3 ?_; (case k0 => first | assumption | exact Heap.MadeExc.of (by assumption)); (case k2 => assumption); (case k1 => assumption); (case k3 => k_asm); k_whole; intro _ _ S' R' U'; (try dsimp only at S' R' U' ⊢))); (try (revert S' R' U'; intro _ _ _))))) | ((with_reducible show wpAny _ _ (call (Value.builtin "str.index") _) _ _ _); (first | with_reducible ((k_here; (refine index_or (by rfl) (fun hF9 _ => (ix_absurd (by with_reducible assumption) (by omega) (by omega) hF9).elim) ?_); (intro _ _))) | ((k_here; (refine index_or (by rfl) (fun hF9 _ => (ix_absurd (by with_reducible assumption) (by omega) (by omega) hF9).elim) ?_); (intro _ _))))) | (first | with_reducible ((k_here; (with_reducible show wpAny _ _ (subscriptTail _ _ (Value.str _ _) (Value.int _ _)) _ _ _); (refine KXi.item rfl (by omega) (by omega) (by omega) ?_); intro _)) | ((k_here; (with_reducible show wpAny _ _ (subscriptTail _ _ (Value.str _ _) (Value.int _ _)) _ _ _); (refine KXi.item rfl (by omega) (by omega) (by omega) ?_); intro _))) | ((with_reducible show wpAny _ _ (call (Value.builtin "len") _) _ _ _); (first | with_reducible ((k_here; (with_reducible show wpAny _ _ (call (Value.builtin _) [Value.str _ _]) _ _ _); (refine len_str (by omega) ?_))) | ((k_here; (with_reducible show wpAny _ _ (call (Value.builtin _) [Value.str _ _]) _ _ _); (refine len_str (by omega) ?_))))) | (first | with_reducible ((k_here; (with_reducible show wpAny _ _ (exec (Stmt.Raise (some (Expr.Name ("ZeroDivisionError" : Str) _)) none _) _) _ _ _); (with_reducible rename Fr _ _ _ _ => kF); k_dflt (refine' raiseZ ?hh ?hx ?_; (case hh => rfl); (case hx => (refine' name_B kF ?k1 ?k2 ?k3 ?k4 ?k5 ?_; (case k1 => k_asm); (case k2 => k_asm); (case k3 => k_is); (case k4 => boot_by_name); (case k5 => decide); exact ⟨rfl, rfl⟩))); intro _ _ _)) | ((k_here; (with_reducible show wpAny _ _ (exec (Stmt.Raise (some (Expr.Name ("ZeroDivisionError" : Str) _)) none _) _) _ _ _); (with_reducible rename Fr _ _ _ _ => kF); k_dflt (refine' raiseZ ?hh ?hx ?_; (case hh => rfl); (case hx => (refine' name_B kF ?k1 ?k2 ?k3 ?k4 ?k5 ?_; (case k1 => k_asm); (case k2 => k_asm); (case k3 => k_is); (case k4 => boot_by_name); (case k5 => decide); exact ⟨rfl, rfl⟩))); intro _ _ _))) | ((with_reducible show wpAny _ _ (call (Value.builtin "list.append") _) _ _ _); (first | with_reducible ((k_here; (with_reducible show wpAny _ _ (call (Value.builtin _) [Value.ref _, _]) _ _ _); k_dflt (refine' app_K (by k_asm) (by k_asm) (by k_upd) (by first | with_reducible assumption | omega | assumption) ?_); intro _ _ _; (try k_sweep))) | ((k_here; (with_reducible show wpAny _ _ (call (Value.builtin _) [Value.ref _, _]) _ _ _); k_dflt (refine' app_K (by k_asm) (by k_asm) (by k_upd) (by first | with_reducible assumption | omega | assumption) ?_); intro _ _ _; (try k_sweep))))) | (k_end; wrow_close) | ((fail_if_success (with_reducible show wpAny _ _ (call (Value.ref _) _) _ _ _)); walk1) | ((fail_if_success (show wpAny _ _ (call (Value.ref _) _) _ _ _)); dsimp only; walk1) | (leave1; walk_say "STEP leave1"; try dsimp only) | fail "no step"))
        all_goals (try (exfalso; exact absurd hne9 (by rw [(by assumption : (_ && _) = false)]; decide)))
        rename_i Dt _ hlt tk0 _ _ _ _ _ _
        have hall : ∀ p ∈ (Dt, tupO [.int ((qF [] number).fdiv kd.length) ta7, .int (-((qF [] number).fmod kd.length)) tk6]) :: (l6, tupO [.int ((- -number).fdiv (- -kd.length)) ta6, .int (-((- -number).fmod (- -kd.length))) tb6]) :: (ln, listOf #[] 0) :: (more6 ++ (l7, tupO [.int ((qF [] number).fdiv kd.length) ta7, .int ((qF [] number).fmod kd.length) tb7]) :: (more7 ++ add)), FarP lp Dq rest p := by
          intro p hp
          rcases List.mem_cons.mp hp with rfl | hp
          · exact ⟨fun q hq => allLt_all hlt.2.2.2.2.2.2.2.2 q (by k_data), hlt.2.2.2.2.2.2.1, Nat.ne_of_lt hlt.2.2.2.2.1, Nat.ne_of_lt hlt.2.2.2.1⟩
          have h6 : ∀ p ∈ (l6, tupO [.int ((- -number).fdiv (- -kd.length)) ta6, .int (-((- -number).fmod (- -kd.length))) tb6]) :: more6, FarP lp Dq rest p := by
            intro p hp
            have e1 := lt6 p hp (lp, listOf #[] e') (by k_data)
            have e2 := lt6 p hp (Dq, it) (by k_data)
            exact ⟨fun q hq => lt6 p hp q (by k_data), Nat.lt_trans lp1 e1, Nat.ne_of_lt e1, Nat.ne_of_lt e2⟩
          rcases List.mem_cons.mp hp with rfl | hp
          · exact h6 _ (.head _)
          rcases List.mem_cons.mp hp with rfl | hp
          · exact ⟨fun q hq => allLt_all hl1.2.2.2.2.2.2 q (by k_data), Nat.lt_trans lp1 hl1.2.2.1, Nat.ne_of_lt hl1.2.2.1, Nat.ne_of_lt hl1.2.1⟩
          rcases List.mem_append.mp hp with hp | hp
          · exact h6 p (.tail _ hp)
          · exact h7 p hp
        have hofD : ∀ p ∈ (lp, listOf (List.toArray ([] ++ [Value.int (ix kd ((qF [] number).fmod kd.length)) (tk0 + 1 + 1)])) (e' + 1)) :: (lrow, listOf kv.toArray e) :: (54, t16) :: (47, t26) :: (((Dt, tupO [.int ((qF [] number).fdiv kd.length) ta7, .int (-((qF [] number).fmod kd.length)) tk6]) :: (l6, tupO [.int ((- -number).fdiv (- -kd.length)) ta6, .int (-((- -number).fmod (- -kd.length))) tb6]) :: (ln, listOf #[] 0) :: (more6 ++ (l7, tupO [.int ((qF [] number).fdiv kd.length) ta7, .int ((qF [] number).fmod kd.length) tb7]) :: (more7 ++ add))) ++ rest), p.1 ≠ Dq := by
          intro p hp
          rcases List.mem_cons.mp hp with rfl | hp
          · exact Nat.ne_of_lt l1d.1
          rcases List.mem_cons.mp hp with rfl | hp
          · exact Nat.ne_of_lt l1d.2.1
          rcases List.mem_cons.mp hp with rfl | hp
          · exact Nat.ne_of_lt l1d.2.2.1
          rcases List.mem_cons.mp hp with rfl | hp
          · exact Nat.ne_of_lt l1d.2.2.2.1
          rcases List.mem_append.mp hp with hp | hp
          · exact ((hall p hp).2.2.2).symm
          · exact Nat.ne_of_lt (allLt_all hDrest p hp)
        k_dflt (refine' UnrEnd.intro ?F ?N ((lp, listOf (List.toArray ([] ++ [Value.int (ix kd ((qF [] number).fmod kd.length)) (tk0 + 1 + 1)])) (e' + 1)) :: (lrow, listOf kv.toArray e) :: (54, t16) :: (47, t26) :: (((Dt, tupO [.int ((qF [] number).fdiv kd.length) ta7, .int (-((qF [] number).fmod kd.length)) tk6]) :: (l6, tupO [.int ((- -number).fdiv (- -kd.length)) ta6, .int (-((- -number).fmod (- -kd.length))) tb6]) :: (ln, listOf #[] 0) :: (more6 ++ (l7, tupO [.int ((qF [] number).fdiv kd.length) ta7, .int ((qF [] number).fmod kd.length) tb7]) :: (more7 ++ add))) ++ rest)) ?sub ?off ?inv)
        case off => exact hofD
        case F => k_asm
        case N => k_asm
        case sub => k_slotset
        refine ⟨by simp, [kd], rs', _, ta7, e' + 1, t16, t26, (Dt, tupO [.int ((qF [] number).fdiv kd.length) ta7, .int (-((qF [] number).fmod kd.length)) tk6]) :: (l6, tupO [.int ((- -number).fdiv (- -kd.length)) ta6, .int (-((- -number).fmod (- -kd.length))) tb6]) :: (ln, listOf #[] 0) :: (more6 ++ (l7, tupO [.int ((qF [] number).fdiv kd.length) ta7, .int ((qF [] number).fmod kd.length) tb7]) :: (more7 ++ add)), ir, hpr, (fun z hz => by rw [List.mem_singleton.mp hz]; omega), .cons _ _ .nil, rfl, hmn, hmp, rfl, hall, ?_, ?_, lp1, lp2⟩
        · exact ok16.mono (by simp only [List.cons_append, List.append_assoc]; k_slotset)
        · exact ok26.mono (by simp only [List.cons_append, List.append_assoc]; k_slotset)
      | cons k0 pr' =>
        (repeat' (first | (k_unfold; (try dsimp only)) | (first | with_reducible ((k_here; (with_reducible show wpAny _ _ (compareOp CmpOp.Eq (Value.ref _) (Value.ref _)) _ _ _); (with_unfolding_all refine' eq_intsK (News.isList (by k_asm) (by k_mem)) (by first | assumption | exact IntsAre.nil) (News.isList (by k_asm) (by k_mem)) (by first | assumption | exact IntsAre.nil) (by units_room) ?_); (try rw [pF_dec]))) | ((k_here; (with_reducible show wpAny _ _ (compareOp CmpOp.Eq (Value.ref _) (Value.ref _)) _ _ _); (with_unfolding_all refine' eq_intsK (News.isList (by k_asm) (by k_mem)) (by first | assumption | exact IntsAre.nil) (News.isList (by k_asm) (by k_mem)) (by first | assumption | exact IntsAre.nil) (by units_room) ?_); (try rw [pF_dec])))) | (first | with_reducible ((k_here; (with_reducible show wpAny _ _ (noteFrame _ _) (fun _ s₂ => wpAny _ _ (setFlight _ none) (fun _ s₃ => wpAny _ _ (handleBy _ _ (ExceptHandler.ExceptHandler (some (Expr.Name ("ZeroDivisionError" : Str) _)) none _ _ :: _)) _ _ s₃) _ s₂) _ _); k_dflt (refine' caught_S0 (T' := "ZeroDivisionError") ?R ?F ?K ?U ?XB ?TB ?D ?T0 ?ex PyProof.Rows.Boot.«ZeroDivisionError» ?hn PySem.F.isExc_ZeroDivisionError PySem.F.notTuple_ZeroDivisionError ?hs ?_; (case R => assumption); (case F => assumption); (case K => assumption); (case U => assumption); (case XB => assumption); (case TB => assumption); (case D => assumption); (case T0 => exact KtsTurn.refl); (case hs => (rw [isSubtype_type]; kernel_rfl!)); (case ex => k_is); (case hn => decide); k_whole); intro _ _ _ _ _ _ _ _ _ _ _ _; (try k_sweep))) | ((k_here; (with_reducible show wpAny _ _ (noteFrame _ _) (fun _ s₂ => wpAny _ _ (setFlight _ none) (fun _ s₃ => wpAny _ _ (handleBy _ _ (ExceptHandler.ExceptHandler (some (Expr.Name ("ZeroDivisionError" : Str) _)) none _ _ :: _)) _ _ s₃) _ s₂) _ _); k_dflt (refine' caught_S0 (T' := "ZeroDivisionError") ?R ?F ?K ?U ?XB ?TB ?D ?T0 ?ex PyProof.Rows.Boot.«ZeroDivisionError» ?hn PySem.F.isExc_ZeroDivisionError PySem.F.notTuple_ZeroDivisionError ?hs ?_; (case R => assumption); (case F => assumption); (case K => assumption); (case U => assumption); (case XB => assumption); (case TB => assumption); (case D => assumption); (case T0 => exact KtsTurn.refl); (case hs => (rw [isSubtype_type]; kernel_rfl!)); (case ex => k_is); (case hn => decide); k_whole); intro _ _ _ _ _ _ _ _ _ _ _ _; (try k_sweep)))) | ((with_reducible show wpAny _ _ (leaving _ (Value.ref _)) _ _ _); (first | with_reducible ((k_here; (refine' leave_raiseS ?k1 ?k0 ?k2 ?k3 ?_; (case k0 => first | assumption | exact Heap.MadeExc.of (by assumption)); (case k2 => assumption); (case k1 => assumption); (case k3 => k_asm); k_whole; intro _ _ S' R' U'; (try dsimp only at S' R' U' ⊢))); (try (revert S' R' U'; intro _ _ _))) | ((k_here; (refine' leave_raiseS ?k1 ?k0 ?k2 ?k3 ?_; (case k0 => first | assumption | exact Heap.MadeExc.of (by assumption)); (case k2 => assumption); (case k1 => assumption); (case k3 => k_asm); k_whole; intro _ _ S' R' U'; (try dsimp only at S' R' U' ⊢))); (try (revert S' R' U'; intro _ _ _))))) | ((with_reducible show wpAny _ _ (call (Value.builtin "str.index") _) _ _ _); (first | with_reducible ((k_here; (refine index_or (by rfl) (fun hF9 _ => (ix_absurd (by with_reducible assumption) (by omega) (by omega) hF9).elim) ?_); (intro _ _))) | ((k_here; (refine index_or (by rfl) (fun hF9 _ => (ix_absurd (by with_reducible assumption) (by omega) (by omega) hF9).elim) ?_); (intro _ _))))) | (first | with_reducible ((k_here; (with_reducible show wpAny _ _ (subscriptTail _ _ (Value.str _ _) (Value.int _ _)) _ _ _); (refine KXi.item rfl (by omega) (by omega) (by omega) ?_); intro _)) | ((k_here; (with_reducible show wpAny _ _ (subscriptTail _ _ (Value.str _ _) (Value.int _ _)) _ _ _); (refine KXi.item rfl (by omega) (by omega) (by omega) ?_); intro _))) | ((with_reducible show wpAny _ _ (call (Value.builtin "len") _) _ _ _); (first | with_reducible ((k_here; (with_reducible show wpAny _ _ (call (Value.builtin _) [Value.str _ _]) _ _ _); (refine len_str (by omega) ?_))) | ((k_here; (with_reducible show wpAny _ _ (call (Value.builtin _) [Value.str _ _]) _ _ _); (refine len_str (by omega) ?_))))) | (first | with_reducible ((k_here; (with_reducible show wpAny _ _ (exec (Stmt.Raise (some (Expr.Name ("ZeroDivisionError" : Str) _)) none _) _) _ _ _); (with_reducible rename Fr _ _ _ _ => kF); k_dflt (refine' raiseZ ?hh ?hx ?_; (case hh => rfl); (case hx => (refine' name_B kF ?k1 ?k2 ?k3 ?k4 ?k5 ?_; (case k1 => k_asm); (case k2 => k_asm); (case k3 => k_is); (case k4 => boot_by_name); (case k5 => decide); exact ⟨rfl, rfl⟩))); intro _ _ _)) | ((k_here; (with_reducible show wpAny _ _ (exec (Stmt.Raise (some (Expr.Name ("ZeroDivisionError" : Str) _)) none _) _) _ _ _); (with_reducible rename Fr _ _ _ _ => kF); k_dflt (refine' raiseZ ?hh ?hx ?_; (case hh => rfl); (case hx => (refine' name_B kF ?k1 ?k2 ?k3 ?k4 ?k5 ?_; (case k1 => k_asm); (case k2 => k_asm); (case k3 => k_is); (case k4 => boot_by_name); (case k5 => decide); exact ⟨rfl, rfl⟩))); intro _ _ _))) | ((with_reducible show wpAny _ _ (call (Value.builtin "list.append") _) _ _ _); (first | with_reducible ((k_here; (with_reducible show wpAny _ _ (call (Value.builtin _) [Value.ref _, _]) _ _ _); k_dflt (refine' app_K (by k_asm) (by k_asm) (by k_upd) (by first | with_reducible assumption | omega | assumption) ?_); intro _ _ _; (try k_sweep))) | ((k_here; (with_reducible show wpAny _ _ (call (Value.builtin _) [Value.ref _, _]) _ _ _); k_dflt (refine' app_K (by k_asm) (by k_asm) (by k_upd) (by first | with_reducible assumption | omega | assumption) ?_); intro _ _ _; (try k_sweep))))) | (k_end; wrow_close) | ((fail_if_success (with_reducible show wpAny _ _ (call (Value.ref _) _) _ _ _)); walk1) | ((fail_if_success (show wpAny _ _ (call (Value.ref _) _) _ _ _)); dsimp only; walk1) | (leave1; walk_say "STEP leave1"; try dsimp only) | fail "no step"))
        rename _ ∧ _ ∧ _ ∧ _ ∧ _ ∧ _ ∧ AllLt _ _ => hl1
        rename_i ln _ tk0 _ _ _ _ _ _
        have hofD : ∀ p ∈ (lp, listOf (List.toArray (pv ++ [Value.int (ix kd ((qF (k0 :: pr') number).fmod kd.length)) (tk0 + 1 + 1)])) (e' + 1)) :: (lrow, listOf kv.toArray e) :: (54, t17) :: (47, t27) :: ((ln, listOf #[] 0) :: (l7, tupO [.int ((qF (k0 :: pr') number).fdiv kd.length) ta7, .int ((qF (k0 :: pr') number).fmod kd.length) tb7]) :: (more7 ++ add) ++ rest), p.1 ≠ Dq := by
          intro p hp
          simp only [List.cons_append, List.mem_cons] at hp
          rcases hp with rfl | rfl | rfl | rfl | rfl | hp
          · exact Nat.ne_of_lt l1d.1
          · exact Nat.ne_of_lt l1d.2.1
          · exact Nat.ne_of_lt l1d.2.2.1
          · exact Nat.ne_of_lt l1d.2.2.2.1
          · exact Nat.ne_of_gt hl1.2.1
          · rcases hp with rfl | hp
            · exact ((h7 _ (.head _)).2.2.2).symm
            · rcases List.mem_append.mp hp with hp | hp
              · exact ((h7 _ (.tail _ hp)).2.2.2).symm
              · exact Nat.ne_of_lt (allLt_all hDrest p hp)
        k_dflt (refine' UnrEnd.intro ?F2 ?N2 ((lp, listOf (List.toArray (pv ++ [Value.int (ix kd ((qF (k0 :: pr') number).fmod kd.length)) (tk0 + 1 + 1)])) (e' + 1)) :: (lrow, listOf kv.toArray e) :: (54, t17) :: (47, t27) :: ((ln, listOf #[] 0) :: (l7, tupO [.int ((qF (k0 :: pr') number).fdiv kd.length) ta7, .int ((qF (k0 :: pr') number).fmod kd.length) tb7]) :: (more7 ++ add) ++ rest)) ?sub2 ?off2 ?inv2)
        case off2 => exact hofD
        case F2 => k_asm
        case N2 => k_asm
        case sub2 => k_slotset
        refine ⟨by simp, (k0 :: pr') ++ [kd], rs', _, ta7, e' + 1, t17, t27, (ln, listOf #[] 0) :: (l7, tupO [.int ((qF (k0 :: pr') number).fdiv kd.length) ta7, .int ((qF (k0 :: pr') number).fmod kd.length) tb7]) :: (more7 ++ add), ir, by rw [← hpr]; simp, (fun z hz => by rcases List.mem_append.mp hz with hz | hz; exact hpos z hz; rw [List.mem_singleton.mp hz]; omega), ?_, ?_, hmn, hmp, rfl, ?_, ?_, ?_, lp1, lp2⟩
        · exact IntsAre.append ip (.cons _ _ .nil) |> (pF_snoc (k0 :: pr') kd number ▸ ·)
        · rw [qF_snoc]; rfl
        · intro p hp
          rcases List.mem_cons.mp hp with rfl | hp
          · have e1 := hl1.2.2.1
            have e2 := hl1.2.1
            exact ⟨fun q hq => allLt_all hl1.2.2.2.2.2.2 q (by k_data), Nat.lt_trans lp1 e1, Nat.ne_of_lt e1, Nat.ne_of_lt e2⟩
          · exact h7 p hp
        · exact ok17.mono (by simp only [List.cons_append, List.append_assoc]; k_slotset)
        · exact ok27.mono (by simp only [List.cons_append, List.append_assoc]; k_slotset)

end
-- C7
section
open PySem PySem.W PyProof.Rows PySem.Calls PySem.Spec PyProof.V
theorem fill7 : PySem.Challenge.rw_ij0118_01 = PySem.Challenge.rw_ij0118_01 ∧ hd.heap_1 = hd.heap_1 := by
  k_fill
  exact ⟨rfl, rfl⟩

noncomputable def nmStep (ns : List Int) (k : Str) : List Int := ns.flatMap fun n => (List.range k.length).map fun j => 4 * n + ix k (j : Nat)
noncomputable def nmF (ks : List Str) : List Int := ks.foldl nmStep [0]
theorem nmF_snoc (ks : List Str) (k : Str) : nmF (ks ++ [k]) = nmStep (nmF ks) k := by simp [nmF, List.foldl_append]
theorem nmStep_len (ns : List Int) (k : Str) : (nmStep ns k).length = ns.length * k.length := by
  simp [nmStep, List.length_flatMap, List.map_const']
theorem nmStep_range {ns : List Int} {k : Str} {B : Int} (hk : IxOk k) (h : ∀ n ∈ ns, 0 ≤ n ∧ n < B) : ∀ n ∈ nmStep ns k, 0 ≤ n ∧ n < 4 * B := by
  intro n hn
  obtain ⟨a, ha, hn⟩ := List.mem_flatMap.mp hn
  obtain ⟨j, hj, rfl⟩ := List.mem_map.mp hn
  have h1 := h a ha
  have h2 := hk (j : Nat) (Int.natCast_nonneg _) (by exact_mod_cast List.mem_range.mp hj)
  omega
theorem nmF_facts : ∀ (r : List Str), (∀ k ∈ r, KOk k) → (nmF r).length ≤ 4 ^ r.length ∧ ∀ n ∈ nmF r, 0 ≤ n ∧ n < 4 ^ r.length := by
  intro r
  suffices h : ∀ (l : List Str), (∀ k ∈ l, KOk k) → (nmF l.reverse).length ≤ 4 ^ l.length ∧ ∀ n ∈ nmF l.reverse, 0 ≤ n ∧ n < 4 ^ l.length by
    intro hr
    have := h r.reverse (fun k hk => hr k (List.mem_reverse.mp hk))
    rwa [List.reverse_reverse, List.length_reverse] at this
  intro l
  induction l with
  | nil => intro _; simp [nmF]
  | cons k l ih =>
    intro hl
    obtain ⟨i1, i2⟩ := ih fun k' hk' => hl k' (.tail _ hk')
    obtain ⟨k1, k2⟩ := hl k (.head _)
    rw [List.reverse_cons, nmF_snoc]
    refine ⟨?_, ?_⟩
    · rw [nmStep_len, List.length_cons, Nat.pow_succ]
      exact Nat.mul_le_mul i1 k1
    · intro n hn
      have := nmStep_range k2 i2 n hn
      rw [List.length_cons, Int.pow_succ]
      omega
/-- what stands when i kinds are read -/
inductive InvO (lrow : Addr) (lo : Obj) (Lc : Addr) (ks : List Str) (news : List (Addr × Obj)) (i : Nat) (m : Str → Option Value) (n' : List (Addr × Obj)) : Prop
  | mk : ∀ (lnm : Addr) (nv : List Value) (e : Nat) (oc : Obj) (v0 : Option Value) (g : List (Addr × Obj)), (IntsAre nv (nmF (ks.take i))) → (m (Str.ofString "names") = some (.ref lnm)) → (n' = (lnm, listOf nv.toArray e) :: (Lc, oc) :: (lrow, lo) :: (g ++ news)) → (oc.data = .cell v0) → ((∀ q ∈ news, q.1 < lnm)) → ((∀ p ∈ g, ∀ q ∈ news, q.1 < p.1)) → (Lc < lnm) → ((∀ p ∈ g, Lc < p.1)) → InvO lrow lo Lc ks news i m n'
theorem law_in_order_spec {w loose mean mg mb} (lrow : Addr) (kv : List Value) (ks : List Str) (e : Nat) (hks : StrsAre kv ks) (hok : ∀ k ∈ ks, KOk k) (hlen : ks.length ≤ 4) :
   Spec w loose mean mg mb 360 60 135 (fun rest => (lrow, listOf kv.toArray e) ∈ rest) [.ref lrow] (fun add r => ∃ l vs e' more, r = .ref l ∧ add = (l, listOf vs.toArray e') :: more ∧ IntsAre vs (nmF ks)) := by
  intro dp un gd cn cs a ccd cl outer A₀ base h₀ L m news s Q E hdp hun B F X N T hk hrow hret
  refine around_le (A' := ktrTop 360 60 gd cn cs L a ccd cl outer) rfl hdp rfl rfl hun ?_
  obtain ⟨k, nm, g, c, mo⟩ := cs
  subst hk
  replace N : News h₀ L s.heap ((lrow, listOf kv.toArray e) :: news) := news_perm N (by intro p hp; rcases List.mem_cons.mp hp with rfl | hp; exact hrow; exact hp)
  walk1
  have hLL := frame_lt (h₀ := h₀) (L := L) (m := m) (by assumption) (by assumption)
  (repeat' (first | (k_unfold; (try dsimp only)) | ((with_reducible show wpAny _ _ (call (Value.builtin "str.index") _) _ _ _); (first | with_reducible ((k_here; (refine index_or (by rfl) (fun hF9 _ => (ix_absurd (by with_reducible assumption) (by omega) (by omega) hF9).elim) ?_); (intro _ _))) | ((k_here; (refine index_or (by rfl) (fun hF9 _ => (ix_absurd (by with_reducible assumption) (by omega) (by omega) hF9).elim) ?_); (intro _ _))))) | (k_end; wrow_close) | ((fail_if_success (with_reducible show wpAny _ _ (call (Value.ref _) _) _ _ _)); walk1) | ((fail_if_success (show wpAny _ _ (call (Value.ref _) _) _ _ _)); dsimp only; walk1) | (leave1; walk_say "STEP leave1"; try dsimp only) | fail "no step"))
  refine wpAny_For ?_ (by intro x; rfl)
  (repeat' (first | (k_unfold; (try dsimp only)) | ((with_reducible show wpAny _ _ (call (Value.builtin "str.index") _) _ _ _); (first | with_reducible ((k_here; (refine index_or (by rfl) (fun hF9 _ => (ix_absurd (by with_reducible assumption) (by omega) (by omega) hF9).elim) ?_); (intro _ _))) | ((k_here; (refine index_or (by rfl) (fun hF9 _ => (ix_absurd (by with_reducible assumption) (by omega) (by omega) hF9).elim) ?_); (intro _ _))))) | (k_end; wrow_close) | ((fail_if_success (with_reducible show wpAny _ _ (call (Value.ref _) _) _ _ _)); walk1) | ((fail_if_success (show wpAny _ _ (call (Value.ref _) _) _ _ _)); dsimp only; walk1) | (leave1; walk_say "STEP leave1"; try dsimp only) | fail "no step"))
  rename_i g9 Lf _ _ _ _ _ _ lf oc dc lnm _ l1 _ F9 N9
  refine iter_listA (L := Lf) (lo := listOf kv.toArray e) (vs := kv) (InvO lrow (listOf kv.toArray e) (Lf + 1) ks news) rfl F9 N9 (by k_mem) rfl rfl ?_ (fun _ _ => rfl) ?_ ?_ (by passes_own)
  · exact ⟨lnm, _, 0, oc, _, [], .cons _ _ .nil, rfl, rfl, dc, allLt_all l1.2.2, (fun _ h => nomatch h), l1.1, fun _ h => nomatch h⟩
  · intro i v I it h9 tk9 m9 news9 hv hI hic hoff hm9 hlt9 F8 N8
    obtain ⟨lnm', nv, e', oc', v0, gg, hnv, hmn, rfl, hoc, hl1, hgg, hcl1, hcg⟩ := hI
    obtain ⟨kd, td, rfl, hkd⟩ := hks.item i v hv
    try dsimp only
    try k_fold
    walk1
    have hLfI : @LT.lt Nat _ (Lf + 1) I := hlt9 (Lf + 1, oc) (by k_mem)
    have hlfA := allLt_all lf.2
    refine storeX_C (c := Lf + 1) F8 N8 rfl (UpdF.tail (Nat.ne_of_gt hLfI) (UpdF.tail (Nat.ne_of_gt hcl1) (UpdF.head ?_))) hoc ?_ rfl rfl
    · intro p hp
      rcases List.mem_cons.mp hp with rfl | hp
      · exact Nat.ne_of_lt (Nat.lt_succ_of_lt lf.1)
      rcases List.mem_append.mp hp with hp | hp
      · exact Nat.ne_of_gt (hcg p hp)
      · exact Nat.ne_of_lt (Nat.lt_succ_of_lt (hlfA p hp))
    intro h10 o10 F10 N10 d10
    try dsimp only at N10
    walk1
    have hkk := hok kd (List.mem_of_getElem? hkd)
    have hil : (ks.take i).length ≤ 4 := by rw [List.length_take]; omega
    have hnf := nmF_facts (ks.take i) fun k hk => hok k (List.mem_of_mem_take hk)
    have hp4 : (4 : Nat) ^ (ks.take i).length ≤ 4 ^ 4 := Nat.pow_le_pow_right (by decide) hil
    have hp4' : (4 : Int) ^ (ks.take i).length ≤ 4 ^ 4 := by exact_mod_cast hp4
    refine comp2_A (L := Lf) (kd := kd) (gI := fun n j => 4 * n + ix kd (j : Nat)) (ax := lnm') (lo := listOf nv.toArray e') (vs := nv) (ns := nmF (ks.take i)) (nn := e') F10 N10 (by k_mem) rfl rfl hnv rfl rfl (by decide) rfl (by decide) rfl rfl (by decide) ?y1 ?y2 ?y3 ?y4 rfl rfl rfl rfl ?y5 (fun _ => rfl) (fun _ _ => rfl)
    case y1 =>
      have := Nat.mul_le_mul hnf.1 hkk.1
      rw [sizeLine_eq]
      have := hkk.1
      omega
    case y2 =>
      refine nameX_L F10 hmn ?_ rfl rfl
      exact ⟨rfl, rfl⟩
    case y3 =>
      intro C m₃ s' hN hF hNw E'
      refine lcf_cell hNw rfl (by k_mem) d10 ?_ rfl rfl
      exact ⟨⟨_, rfl⟩, rfl⟩
    case y4 =>
      intro C n t1 m₃ s' j v2 hn hs hN h1 h2 hF hNw E'
      obtain ⟨ch, u, hc1, rfl⟩ := hs
      have hnb := hnf.2 n hn
      have hj : j < kd.length := by
        rcases Nat.lt_or_ge j kd.cps.size with h | h
        · exact h
        · rw [Array.getElem?_eq_none h] at hc1; cases hc1
      have hit : (⟨#[ch]⟩ : Str) = Txt.item kd (j : Nat) := by
        unfold Txt.item Txt.charAt
        rw [show (seqIndex? ((j : Nat) : Int) kd.length) = some j from by unfold seqIndex?; simp; exact ix_in (by assumption)]
        simp [hc1]
      rw [hit] at h2
      have hix := hkk.2
      (repeat' (first | (k_unfold; (try dsimp only)) | ((with_reducible show wpAny _ _ (call (Value.builtin "str.index") _) _ _ _); (first | with_reducible ((k_here; (refine index_or (by rfl) (fun hF9 _ => (ix_absurd (by with_reducible assumption) (by omega) (by omega) hF9).elim) ?_); (intro _ _))) | ((k_here; (refine index_or (by rfl) (fun hF9 _ => (ix_absurd (by with_reducible assumption) (by omega) (by omega) hF9).elim) ?_); (intro _ _))))) | (k_end; wrow_close) | ((fail_if_success (with_reducible show wpAny _ _ (call (Value.ref _) _) _ _ _)); walk1) | ((fail_if_success (show wpAny _ _ (call (Value.ref _) _) _ _ _)); dsimp only; walk1) | (leave1; walk_say "STEP leave1"; try dsimp only) | fail "no step"))
    case y5 =>
      intro D h11 tk11 ys F11 N11 lt11 iys
      dsimp only
      refine wpAny_execs_nil ?_
      refine ⟨h11, tk11, _, (D, listOf ys.toArray ys.length) :: (Lf + 1, o10) :: (lrow, listOf kv.toArray e) :: ((lnm', listOf nv.toArray e') :: gg ++ news), rfl, F11, ?_, ?_, ?_, ?_⟩
      · have N11' : News g9 Lf h11 ((D, listOf ys.toArray ys.length) :: (I, it) :: (lnm', listOf nv.toArray e') :: (Lf + 1, o10) :: (lrow, listOf kv.toArray e) :: (gg ++ news)) := N11
        exact news_perm N11' (by k_slotset)
      · intro p hp
        rcases List.mem_cons.mp hp with rfl | hp
        · exact Nat.ne_of_gt (lt11 _ (.head _))
        rcases List.mem_cons.mp hp with rfl | hp
        · exact Nat.ne_of_lt hLfI
        rcases List.mem_cons.mp hp with rfl | hp
        · exact hoff _ (by simp)
        · rcases List.mem_cons.mp hp with rfl | hp
          · exact hoff _ (.head _)
          · exact hoff p (.tail _ (.tail _ (.tail _ hp)))
      · k_mem
      · refine ⟨D, ys, ys.length, o10, _, (lnm', listOf nv.toArray e') :: gg, ?_, by simp, rfl, d10, ?_, ?_, ?_, ?_⟩
        · rw [List.take_add_one, hkd, Option.toList_some, nmF_snoc]
          exact iys
        · intro q hq
          exact lt11 q (by simp [hq])
        · intro p hp q hq
          rcases List.mem_cons.mp hp with rfl | hp
          · exact hl1 q hq
          · exact hgg p hp q hq
        · exact Nat.lt_trans hLfI (lt11 _ (.head _))
        · intro p hp
          rcases List.mem_cons.mp hp with rfl | hp
          · exact hcl1
          · exact hcg p hp
  · intro h9 tk9 m9 n9 hI F9 N9
    obtain ⟨lnm', nv, e', oc', v0, gg, hnv, hmn, rfl, hoc, hl1, hgg, hcl1, hcg⟩ := hI
    try dsimp only
    try k_fold
    (repeat' (first | (k_unfold; (try dsimp only)) | ((with_reducible show wpAny _ _ (call (Value.builtin "str.index") _) _ _ _); (first | with_reducible ((k_here; (refine index_or (by rfl) (fun hF9 _ => (ix_absurd (by with_reducible assumption) (by omega) (by omega) hF9).elim) ?_); (intro _ _))) | ((k_here; (refine index_or (by rfl) (fun hF9 _ => (ix_absurd (by with_reducible assumption) (by omega) (by omega) hF9).elim) ?_); (intro _ _))))) | (k_end; wrow_close) | ((fail_if_success (with_reducible show wpAny _ _ (call (Value.ref _) _) _ _ _)); walk1) | ((fail_if_success (show wpAny _ _ (call (Value.ref _) _) _ _ _)); dsimp only; walk1) | (leave1; walk_say "STEP leave1"; try dsimp only) | fail "no step"))
    have hkl := hks.len_eq
    rw [hkl, List.take_length] at hnv
    refine hret _ ((lnm', listOf nv.toArray e') :: (Lf + 1, oc') :: gg) _ _ (by k_asm) (news_perm (by k_asm) (by k_slotset)) ?_ ⟨lnm', nv, e', _, rfl, rfl, hnv⟩
    have hlfA := allLt_all lf.2
    intro p hp q hq
    rcases List.mem_cons.mp hp with rfl | hp
    · exact hl1 q hq
    rcases List.mem_cons.mp hp with rfl | hp
    · exact Nat.lt_succ_of_lt (hlfA q hq)
    · exact hgg p hp q hq

end
-- B19
section
theorem fillB19 : PySem.Challenge.rw_ij0118_01 = PySem.Challenge.rw_ij0118_01 ∧ hd.heap_1 = hd.heap_1 := by
  k_fill
  exact ⟨rfl, rfl⟩
noncomputable def esOf : Option Obj → Array DictEntry
  | some ⟨_, _, .dict es _, _⟩ => es
  | _ => #[]
noncomputable def spEs (P : Params) : Array DictEntry := esOf ((hd.heap_1 P).lookup 87)
theorem sp_look (P : Params) : (hd.heap_1 P).lookup 87 = some { cls := .type "dict", data := .dict (spEs P) 24 } := by rfl
noncomputable def intKey : Value → Option Int
  | .int k _ => some k
  | _ => none
noncomputable def keyOk (e : DictEntry) : Bool := decide (some e.hash = (intKey e.key).map hashInt)
noncomputable def keysChk (l : List DictEntry) : Bool := l.all keyOk
theorem keyOk_of {prog : Program} {w : World} {e : DictEntry} (h : keyOk e = true) : ∃ k, (intKind prog w).is k e.key = true ∧ e.hash = (intKind prog w).hash k := by
  obtain ⟨hs, key, v⟩ := e
  have h1 := of_decide_eq_true h
  cases key with
  | int k t => exact ⟨k, intKind_is _ _ _ _, Option.some.inj h1⟩
  | _ => cases h1
theorem keysChk_of {prog : Program} {w : World} {l : List DictEntry} (h : keysChk l = true) (e : DictEntry) (he : e ∈ l) : ∃ k, (intKind prog w).is k e.key = true ∧ e.hash = (intKind prog w).hash k :=
  keyOk_of (List.all_eq_true.mp h e he)
theorem sp_keys (P : Params) : keysChk (spEs P).toList = true := by rfl
theorem sp_map {prog : Program} {w : World} {h₀ h : Heap} {L : Addr} {m : Str → Option Value} (F : Fr h₀ L h m) (X : (hd.heap_1 w.params).In h₀) : h.MapOf (intKind prog w) 87 (fun k => findBy Value.isInt (spEs w.params) k) :=
  ⟨_, _, 24, F.keep _ _ (X _ _ (sp_look w.params)), ⟨rfl, rfl, rfl⟩, rfl, fun e he => keysChk_of (sp_keys _) e (Array.mem_toList_iff.mpr he), fun _ => rfl⟩
theorem sp_99 (P : Params) : findBy Value.isInt (spEs P) (99 : Nat) = none := by rfl
theorem sp_45 (P : Params) : findBy Value.isInt (spEs P) (45 : Nat) = some (.str (Str.ofString "\\-") 474) := by rfl
section
variable {prog : Program} {w : World} {A : Around} {E : Value → Shared → Prop} {s : Shared} {h₀ : Heap} {L : Addr} {m : Str → Option Value} {news : List (Addr × Obj)} {t : Tok}
theorem trl_c {Q : Value → Shared → Prop} (hA : A.handled = none) (F : Fr h₀ L s.heap m) (N : News h₀ L s.heap news) (X : (hd.heap_1 w.params).In h₀)
    (h : ∀ h' tk t', Fr h₀ L h' m → News h₀ L h' news → Q (.str (Str.ofString "c") t') { s with heap := h', toks := tk }) :
    wpAny (model prog w) A (call (.builtin "str.translate") [.str (Str.ofString "c") t, .ref 87]) Q E s := by
  refine transl_miss hA (by decide) (sp_map F X) (sp_99 _) fun h' tk t' kp => ?_
  exact h h' tk t' (F.keeps kp) (N.grown kp)
theorem trl_d {Q : Value → Shared → Prop} (F : Fr h₀ L s.heap m) (N : News h₀ L s.heap news) (X : (hd.heap_1 w.params).In h₀)
    (h : ∀ h' tk t', Fr h₀ L h' m → News h₀ L h' news → Q (.str (Str.ofString "\\-") t') { s with heap := h', toks := tk }) :
    wpAny (model prog w) A (call (.builtin "str.translate") [.str (Str.ofString "-") t, .ref 87]) Q E s := by
  refine transl_hit (by decide +kernel) (by decide +kernel) (sp_map F X) (sp_45 _) fun tk t' => ?_
  exact h s.heap tk t' F N
end
theorem getm_trl {M : Model} {A : Around} {E : Value → Shared → Prop} {s : Shared} {x : Str} {t : Tok} {pl : Sem Bool} {Q : Value × List Value → Shared → Prop} (h : Q (.builtin "str.translate", [.str x t]) s) : wpAny M A (getMethod (.str x t) "translate" pl) Q E s := by
  with_reducible exact PySem.GM.of (.str x t) (PySem.typeIs_str _ _ _) PySem.F.slot_str_translate PySem.F.type_str_translate PySem.GM.noRef h
theorem esc_c {w loose mean mg mb} (t : Tok) :
   Spec w loose mean mg mb 360 60 97 (fun _ => True) [.str (Str.ofString "c") t] (fun add r => ∃ t', add = [] ∧ r = .str (Str.ofString "c") t') := by
  intro dp un gd cn cs a ccd cl outer A₀ base h₀ L m news s Q E hdp hun B F X N T hk _ hret
  refine around_le (A' := ktrTop 360 60 gd cn cs L a ccd cl outer) rfl hdp rfl rfl hun ?_
  obtain ⟨k, nm, g, c, mo⟩ := cs
  subst hk
  (repeat' (first | (k_unfold; (try dsimp only)) | ((with_reducible show wpAny _ _ (call (Value.builtin "str.translate") _) _ _ _); (first | with_reducible ((k_here; k_dflt (first | refine' trl_c rfl (by k_asm) (by k_asm) (by k_asm) ?_ | refine' trl_d (by k_asm) (by k_asm) (by k_asm) ?_); intro _ _ _ _ _; (try k_sweep))) | ((k_here; k_dflt (first | refine' trl_c rfl (by k_asm) (by k_asm) (by k_asm) ?_ | refine' trl_d (by k_asm) (by k_asm) (by k_asm) ?_); intro _ _ _ _ _; (try k_sweep))))) | (first | with_reducible ((k_here; (with_reducible show wpAny _ _ (getMethod (Value.str _ _) _ _) _ _ _); k_dflt (refine' getm_trl ?_))) | ((k_here; (with_reducible show wpAny _ _ (getMethod (Value.str _ _) _ _) _ _ _); k_dflt (refine' getm_trl ?_)))) | (k_end; wrow_close) | walk1 | (dsimp only; walk1) | (leave1; walk_say "STEP leave1"; try dsimp only) | fail "no step"))
  refine hret _ [] _ _ (by assumption) (by assumption) (fun p hp => nomatch hp) ⟨_, rfl, rfl⟩
theorem esc_d {w loose mean mg mb} (t : Tok) :
   Spec w loose mean mg mb 360 60 97 (fun _ => True) [.str (Str.ofString "-") t] (fun add r => ∃ t', add = [] ∧ r = .str (Str.ofString "\\-") t') := by
  intro dp un gd cn cs a ccd cl outer A₀ base h₀ L m news s Q E hdp hun B F X N T hk _ hret
  refine around_le (A' := ktrTop 360 60 gd cn cs L a ccd cl outer) rfl hdp rfl rfl hun ?_
  obtain ⟨k, nm, g, c, mo⟩ := cs
  subst hk
  (repeat' (first | (k_unfold; (try dsimp only)) | ((with_reducible show wpAny _ _ (call (Value.builtin "str.translate") _) _ _ _); (first | with_reducible ((k_here; k_dflt (first | refine' trl_c rfl (by k_asm) (by k_asm) (by k_asm) ?_ | refine' trl_d (by k_asm) (by k_asm) (by k_asm) ?_); intro _ _ _ _ _; (try k_sweep))) | ((k_here; k_dflt (first | refine' trl_c rfl (by k_asm) (by k_asm) (by k_asm) ?_ | refine' trl_d (by k_asm) (by k_asm) (by k_asm) ?_); intro _ _ _ _ _; (try k_sweep))))) | (first | with_reducible ((k_here; (with_reducible show wpAny _ _ (getMethod (Value.str _ _) _ _) _ _ _); k_dflt (refine' getm_trl ?_))) | ((k_here; (with_reducible show wpAny _ _ (getMethod (Value.str _ _) _ _) _ _ _); k_dflt (refine' getm_trl ?_)))) | (k_end; wrow_close) | walk1 | (dsimp only; walk1) | (leave1; walk_say "STEP leave1"; try dsimp only) | fail "no step"))
  refine hret _ [] _ _ (by assumption) (by assumption) (fun p hp => nomatch hp) ⟨_, rfl, rfl⟩

end
-- T1
section
theorem fillT1 : PySem.Challenge.rw_ij0118_01 = PySem.Challenge.rw_ij0118_01 ∧ hd.heap_1 = hd.heap_1 := by
  k_fill
  exact ⟨rfl, rfl⟩
end
local macro_rules | `(tactic| walk_at "subscriptTail Name Name str int") => `(tactic| (k_here; (with_reducible refine' item_at ?i1 ?i2 ?_ ?i3 ?i4); (case i1 => (first | with_reducible assumption | k_dflt assumption)); (case i2 => k_asm); (case i3 => k_dflt with_unfolding_all rfl); (case i4 => k_dflt (intro _; with_unfolding_all rfl))))
local macro_rules | `(tactic| walk_at "compareOp Eq str str") => `(tactic| (k_here; (with_reducible refine' eq_lit ?q ?_); (case q => (first | (with_reducible assumption) | exact (by decide +kernel : (_ == _) = false) | exact (by decide +kernel : (_ == _) = true)))))
local macro_rules | `(tactic| walk_at "compareOp NotEq str str") => `(tactic| (k_here; (with_reducible refine' ne_lit ?q ?_); (case q => (first | (with_reducible assumption) | exact (by decide +kernel : (_ != _) = false) | exact (by decide +kernel : (_ != _) = true)))))
local macro_rules | `(tactic| walk_at "ite") => `(tactic| (first | (with_reducible refine' ite_ff9 ?_) | (with_reducible refine' ite_tt9 ?_) | (with_reducible refine' iteA (by assumption) ?_) | (with_reducible refine' iteB (by assumption) ?_)))
section
inductive TailPost (s : Shared) (gg : Heap) (Lf lr qa : Addr) (m9 : Str → Option Value) (rv : List Value) (e : Nat) (rest : List (Addr × Obj)) (p : Str) (j : Int) (f : Flow) (s' : Shared) : Prop
  | mk : (f = .next) → ∀ h' tk m' t9' t ti junk, (s' = { s with heap := h', toks := tk }) → (Fr gg Lf h' m') → (News gg Lf h' ((99, t9') :: (lr, listOf (rv ++ [Value.str p t]).toArray (e + 1)) :: (qa, bndO lr) :: (junk ++ rest))) → (T99 t9') → ((∀ q ∈ junk, @LT.lt Nat _ qa q.1)) → (m' (Str.ofString "i") = some (.int (j + 1) ti)) → (∀ y, y ≠ Str.ofString "stuff" → y ≠ Str.ofString "i" → m' y = m9 y) → TailPost s gg Lf lr qa m9 rv e rest p j f s'
theorem tail_end {s : Shared} {gg h' : Heap} {Lf lr qa fl : Addr} {m9 m' : Str → Option Value} {t9l ol : Obj} {rv : List Value} {e tk : Nat} {rest : List (Addr × Obj)} {p p' : Str} {j : Int} {t ti : Tok} (hql : @LT.lt Nat _ qa fl) (F : Fr gg Lf h' m')
    (N : News gg Lf h' ((fl, ol) :: (99, t9l) :: (lr, listOf (rv.toArray.push (Value.str p' t)) (e + 1)) :: (qa, bndO lr) :: rest)) (ok : T99 t9l) (hp : p' = p) (hi : m' (Str.ofString "i") = some (.int (j + 1) ti)) (hm : ∀ y, y ≠ Str.ofString "stuff" → y ≠ Str.ofString "i" → m' y = m9 y) :
    TailPost s gg Lf lr qa m9 rv e rest p j .next { s with heap := h', toks := tk } := by
  subst hp
  refine ⟨rfl, h', tk, m', t9l, t, ti, [(fl, ol)], rfl, F, ?_, ok, fun q hq => by rw [List.mem_singleton.mp hq]; exact hql, hi, hm⟩
  rw [List.push_toArray] at N
  exact news_perm N (sub_cons (mem_t mem_h) (sub_cons (mem_t (mem_t mem_h)) (sub_cons (mem_t (mem_t (mem_t mem_h))) (sub_cons mem_h (sub_tail (sub_tail (sub_tail (sub_tail sub_here))))))))
theorem tail_end2 {s : Shared} {gg h' : Heap} {Lf lr qa fl tu : Addr} {m9 m' : Str → Option Value} {t9l ol ot : Obj} {rv : List Value} {e tk : Nat} {rest : List (Addr × Obj)} {p p' : Str} {j : Int} {t ti : Tok} (hql : @LT.lt Nat _ qa fl) (hqt : @LT.lt Nat _ fl tu) (F : Fr gg Lf h' m')
    (N : News gg Lf h' ((tu, ot) :: (fl, ol) :: (99, t9l) :: (lr, listOf (rv.toArray.push (Value.str p' t)) (e + 1)) :: (qa, bndO lr) :: rest)) (ok : T99 t9l) (hp : p' = p) (hi : m' (Str.ofString "i") = some (.int (j + 1) ti)) (hm : ∀ y, y ≠ Str.ofString "stuff" → y ≠ Str.ofString "i" → m' y = m9 y) :
    TailPost s gg Lf lr qa m9 rv e rest p j .next { s with heap := h', toks := tk } := by
  subst hp
  refine ⟨rfl, h', tk, m', t9l, t, ti, [(fl, ol), (tu, ot)], rfl, F, ?_, ok, fun q hq => ?_, hi, hm⟩
  · rw [List.push_toArray] at N
    exact news_perm N (sub_cons (mem_t (mem_t mem_h)) (sub_cons (mem_t (mem_t (mem_t mem_h))) (sub_cons (mem_t (mem_t (mem_t (mem_t mem_h)))) (sub_cons (mem_t mem_h) (sub_cons mem_h (sub_tail (sub_tail (sub_tail (sub_tail (sub_tail sub_here))))))))))
  · rcases List.mem_cons.mp hq with rfl | hq
    · exact hql
    · rw [List.mem_singleton.mp hq]; exact Nat.lt_trans hql hqt
theorem tail_len {S : Str} (hz : S.length ≤ 1000) : (Str.empty ++ Str.ofString "[").length ≤ sizeLine ∧ (Str.empty ++ Str.ofString "[" ++ S).length ≤ sizeLine ∧ (Str.empty ++ Str.ofString "[" ++ S ++ Str.ofString "]").length ≤ sizeLine := by
  rw [sizeLine_eq]
  have a : (Str.empty ++ Str.ofString "[").length ≤ 1 := by decide
  have b : (Str.empty ++ Str.ofString "[" ++ S).length ≤ 1001 := cat_le a hz (by decide)
  exact ⟨Nat.le_trans a (by decide), Nat.le_trans b (by decide), cat_le b (by decide : (Str.ofString "]").length ≤ 1) (by decide)⟩
theorem tail_len2 {S : Str} (hz : S.length ≤ 1000) : (Str.ofString "^").length + (Txt.slice S (some 1) none).length ≤ sizeLine ∧ (Str.ofString "^" ++ Txt.slice S (some 1) none).length ≤ sizeLine ∧ (Str.empty ++ Str.ofString "[" ++ (Str.ofString "^" ++ Txt.slice S (some 1) none)).length ≤ sizeLine ∧ (Str.empty ++ Str.ofString "[" ++ (Str.ofString "^" ++ Txt.slice S (some 1) none) ++ Str.ofString "]").length ≤ sizeLine := by
  have h : (Txt.slice S (some 1) none).length ≤ 1000 := Nat.le_trans (Txt.slice_le S _ _) hz
  have u : (Str.ofString "^" ++ Txt.slice S (some 1) none).length ≤ 1001 := cat_le (by decide : (Str.ofString "^").length ≤ 1) h (by decide)
  rw [sizeLine_eq]
  have a : (Str.empty ++ Str.ofString "[").length ≤ 1 := by decide
  have b : (Str.empty ++ Str.ofString "[" ++ (Str.ofString "^" ++ Txt.slice S (some 1) none)).length ≤ 1002 := cat_le a u (by decide)
  exact ⟨Nat.le_trans (Nat.add_le_add (by decide : (Str.ofString "^").length ≤ 1) h) (by decide), Nat.le_trans u (by decide), Nat.le_trans b (by decide), cat_le b (by decide : (Str.ofString "]").length ≤ 1) (by decide)⟩
end
local macro_rules | `(tactic| size_fits) => `(tactic| with_reducible assumption)
section
theorem tail_plain {w : World} {A : Around} {E : Value → Shared → Prop} {s : Shared} {gg h1 : Heap} {Lf lr qa fl : Addr} {m9 m' : Str → Option Value} {t9l ol : Obj} {rv : List Value} {e tk1 : Nat} {rest : List (Addr × Obj)} {loose : List Str} {mean : ExcName → Option Value} {mg mb : Str → Option Value} {j : Int} {ti ts : Tok} {S : Str}
    (F : Fr gg Lf h1 m') (N : News gg Lf h1 ((fl, ol) :: (99, t9l) :: (lr, listOf rv.toArray e) :: (qa, bndO lr) :: rest)) (X : (hd.heap_1 w.params).In gg) (T : Top topProg loose mean mg mb gg) (ok9l : T99 t9l) (hA : A.handled = none)
    (ltl : @LT.lt Nat _ 99 fl ∧ @LT.lt Nat _ lr fl ∧ @LT.lt Nat _ qa fl ∧ AllLt fl rest) (hall : ∀ p ∈ rest, p.1 ≠ lr) (hall9 : ∀ p ∈ rest, p.1 ≠ 99) (hlq : @LT.lt Nat _ lr qa) (h99 : @LT.lt Nat _ 99 lr) (hrv : rv.toArray.size ≤ sizeLine)
    (e1 : m' (Str.ofString "stuff") = some (.str S ts)) (e3 : m' (Str.ofString "add") = some (.ref qa)) (hi : m' (Str.ofString "i") = some (.int (j + 1) ti)) (hm9 : ∀ y, y ≠ Str.ofString "stuff" → y ≠ Str.ofString "i" → m' y = m9 y) (hz : S.length ≤ 1000)
    (hne : ((S.length : Int) != 0) = true) (hl : 0 < S.length) (hb : (S == Str.ofString "!") = false) (h0 : (Txt.item S 0 == Str.ofString "!") = false) (h2 : ([Str.ofString "^", Str.ofString "["].any fun x => x == Txt.item S 0) = false) :
    wpAny (model PySem.Challenge.rw_ij0118_01.row.prog w) A (execs ((trTail w.params).drop 2) (trEnv w.params Lf)) (TailPost s gg Lf lr qa m9 rv e rest (Str.empty ++ Str.ofString "[" ++ S ++ Str.ofString "]") j) E { s with heap := h1, toks := tk1 } := by
  obtain ⟨z1, z2, z3⟩ := tail_len hz
  have z4 : S.length ≤ sizeLine := Nat.le_trans hz (by decide)
  (repeat' (first | (k_unfold; (try dsimp only)) | ((with_reducible show wpAny _ _ (call (Value.builtin "re.Pattern.sub") _) _ _ _); (first | with_reducible ((k_here; k_dflt (refine' sub_K (by first | assumption | rfl) (by k_asm) (by k_asm) (by k_asm) (by k_mem) (by assumption) (by first | assumption | exact miss_of (by decide +kernel)) (by first | assumption | decide +kernel) ?_); intro _ _ _ _ _; (try k_sweep))) | ((k_here; k_dflt (refine' sub_K (by first | assumption | rfl) (by k_asm) (by k_asm) (by k_asm) (by k_mem) (by assumption) (by first | assumption | exact miss_of (by decide +kernel)) (by first | assumption | decide +kernel) ?_); intro _ _ _ _ _; (try k_sweep))))) | (first | with_reducible ((k_here; (with_reducible show wpAny _ _ (getMethod (Value.ref 78) _ _) _ _ _); k_dflt (refine' getm_sub (by k_asm) (by k_asm) ?_))) | ((k_here; (with_reducible show wpAny _ _ (getMethod (Value.ref 78) _ _) _ _ _); k_dflt (refine' getm_sub (by k_asm) (by k_asm) ?_)))) | ((with_reducible show wpAny _ _ (eval (PySem.Expr.Lambda _ _ _ _) _) _ _ _); (first | with_reducible ((k_here; k_dflt (refine' kla_eval rfl ?_); k_dflt (refine' lam_any (by k_asm) (by k_asm) (by k_asm) (by assumption) rfl (by k_updF) (by assumption) rfl ?_); intro _ _ _ _ _ _ N' _ _ lt'; (try dsimp only at N'); (try k_lt lt')); (try (revert N' lt'; intro _ _))) | ((k_here; k_dflt (refine' kla_eval rfl ?_); k_dflt (refine' lam_any (by k_asm) (by k_asm) (by k_asm) (by assumption) rfl (by k_updF) (by assumption) rfl ?_); intro _ _ _ _ _ _ N' _ _ lt'; (try dsimp only at N'); (try k_lt lt')); (try (revert N' lt'; intro _ _))))) | (first | with_reducible ((k_here; (with_reducible show wpAny _ _ (call (Value.ref _) [_]) _ _ _); k_dflt (refine' call_bnd (by k_asm) (by k_asm) (by k_mem) (by k_upd) ?_ (by first | assumption | omega | size_fits)); intro _ _ _; (try k_sweep))) | ((k_here; (with_reducible show wpAny _ _ (call (Value.ref _) [_]) _ _ _); k_dflt (refine' call_bnd (by k_asm) (by k_asm) (by k_mem) (by k_upd) ?_ (by first | assumption | omega | size_fits)); intro _ _ _; (try k_sweep)))) | (first | with_reducible (((with_reducible show StandsB _ _ _ ∧ _); k_dflt (refine ⟨standsB_of (by k_asm) (by k_mem), ?_⟩); (try dsimp only [List.nil_append, List.cons_append]))) | (((with_reducible show StandsB _ _ _ ∧ _); k_dflt (refine ⟨standsB_of (by k_asm) (by k_mem), ?_⟩); (try dsimp only [List.nil_append, List.cons_append])))) | (first | with_reducible ((k_here; (with_reducible show wpAny _ _ (callWith _ (Value.ref _) _ (backTo _ (starEach (_ :: _) _)) []) _ _ _); k_dflt (refine' callWith_bnd (by k_asm) (by k_mem) ?_; k_whole))) | ((k_here; (with_reducible show wpAny _ _ (callWith _ (Value.ref _) _ (backTo _ (starEach (_ :: _) _)) []) _ _ _); k_dflt (refine' callWith_bnd (by k_asm) (by k_mem) ?_; k_whole)))) | ((with_reducible show wpAny _ _ (joinParts _ (evalEach [] _)) _ _ _); (with_reducible refine' joinParts_nilE ?_); (with_reducible refine' joinParts_nil ?_ ?sz9); (case sz9 => with_reducible assumption)) | ((fail_if_success (with_reducible show wpAny _ _ (exec (Stmt.While _ _ _ _) _) _ _ _)); (fail_if_success (with_reducible show UnrEnd _ _ _ _ _ _ _)); (fail_if_success (with_reducible show _ = _ ∧ _)); walk1) | ((fail_if_success (with_reducible show wpAny _ _ (exec (Stmt.While _ _ _ _) _) _ _ _)); (fail_if_success (with_reducible show UnrEnd _ _ _ _ _ _ _)); (fail_if_success (with_reducible show _ = _ ∧ _)); dsimp only; walk1) | (leave1; walk_say "STEP leave1"; try dsimp only) | fail "no step"))
  all_goals first
    | refine tail_end ltl.2.2.1 (by k_asm) (by k_asm) ok9l rfl (by first | exact hi | rfl) (fun y h1 h2 => ?_)
    | refine tail_end2 ltl.2.2.1 (by rename_i ltt _ _ _ _ _ _; exact ltt.1) (by k_asm) (by k_asm) ok9l rfl (by first | exact hi | rfl) (fun y h1 h2 => ?_)
  all_goals (try simp only [h1, if_false])
  all_goals exact hm9 y h1 h2
theorem tail_barred {w : World} {A : Around} {E : Value → Shared → Prop} {s : Shared} {gg h1 : Heap} {Lf lr qa fl : Addr} {m9 m' : Str → Option Value} {t9l ol : Obj} {rv : List Value} {e tk1 : Nat} {rest : List (Addr × Obj)} {loose : List Str} {mean : ExcName → Option Value} {mg mb : Str → Option Value} {j : Int} {ti ts : Tok} {S : Str}
    (F : Fr gg Lf h1 m') (N : News gg Lf h1 ((fl, ol) :: (99, t9l) :: (lr, listOf rv.toArray e) :: (qa, bndO lr) :: rest)) (X : (hd.heap_1 w.params).In gg) (T : Top topProg loose mean mg mb gg) (ok9l : T99 t9l) (hA : A.handled = none)
    (ltl : @LT.lt Nat _ 99 fl ∧ @LT.lt Nat _ lr fl ∧ @LT.lt Nat _ qa fl ∧ AllLt fl rest) (hall : ∀ p ∈ rest, p.1 ≠ lr) (hall9 : ∀ p ∈ rest, p.1 ≠ 99) (hlq : @LT.lt Nat _ lr qa) (h99 : @LT.lt Nat _ 99 lr) (hrv : rv.toArray.size ≤ sizeLine)
    (e1 : m' (Str.ofString "stuff") = some (.str S ts)) (e3 : m' (Str.ofString "add") = some (.ref qa)) (hi : m' (Str.ofString "i") = some (.int (j + 1) ti)) (hm9 : ∀ y, y ≠ Str.ofString "stuff" → y ≠ Str.ofString "i" → m' y = m9 y) (hz : S.length ≤ 1000)
    (hne : ((S.length : Int) != 0) = true) (hl : 0 < S.length) (hb : (S == Str.ofString "!") = false) (h0 : (Txt.item S 0 == Str.ofString "!") = true) :
    wpAny (model PySem.Challenge.rw_ij0118_01.row.prog w) A (execs ((trTail w.params).drop 2) (trEnv w.params Lf)) (TailPost s gg Lf lr qa m9 rv e rest (Str.empty ++ Str.ofString "[" ++ (Str.ofString "^" ++ Txt.slice S (some 1) none) ++ Str.ofString "]") j) E { s with heap := h1, toks := tk1 } := by
  obtain ⟨z1, z2, z3, z4⟩ := tail_len2 hz
  have z5 : (Str.empty ++ Str.ofString "[").length ≤ sizeLine := by rw [sizeLine_eq]; decide
  have hns : ¬ (Str.ofString "i" = Str.ofString "stuff") := by decide
  (repeat' (first | (k_unfold; (try dsimp only)) | ((with_reducible show wpAny _ _ (call (Value.builtin "re.Pattern.sub") _) _ _ _); (first | with_reducible ((k_here; k_dflt (refine' sub_K (by first | assumption | rfl) (by k_asm) (by k_asm) (by k_asm) (by k_mem) (by assumption) (by first | assumption | exact miss_of (by decide +kernel)) (by first | assumption | decide +kernel) ?_); intro _ _ _ _ _; (try k_sweep))) | ((k_here; k_dflt (refine' sub_K (by first | assumption | rfl) (by k_asm) (by k_asm) (by k_asm) (by k_mem) (by assumption) (by first | assumption | exact miss_of (by decide +kernel)) (by first | assumption | decide +kernel) ?_); intro _ _ _ _ _; (try k_sweep))))) | (first | with_reducible ((k_here; (with_reducible show wpAny _ _ (getMethod (Value.ref 78) _ _) _ _ _); k_dflt (refine' getm_sub (by k_asm) (by k_asm) ?_))) | ((k_here; (with_reducible show wpAny _ _ (getMethod (Value.ref 78) _ _) _ _ _); k_dflt (refine' getm_sub (by k_asm) (by k_asm) ?_)))) | ((with_reducible show wpAny _ _ (eval (PySem.Expr.Lambda _ _ _ _) _) _ _ _); (first | with_reducible ((k_here; k_dflt (refine' kla_eval rfl ?_); k_dflt (refine' lam_any (by k_asm) (by k_asm) (by k_asm) (by assumption) rfl (by k_updF) (by assumption) rfl ?_); intro _ _ _ _ _ _ N' _ _ lt'; (try dsimp only at N'); (try k_lt lt')); (try (revert N' lt'; intro _ _))) | ((k_here; k_dflt (refine' kla_eval rfl ?_); k_dflt (refine' lam_any (by k_asm) (by k_asm) (by k_asm) (by assumption) rfl (by k_updF) (by assumption) rfl ?_); intro _ _ _ _ _ _ N' _ _ lt'; (try dsimp only at N'); (try k_lt lt')); (try (revert N' lt'; intro _ _))))) | (first | with_reducible ((k_here; (with_reducible show wpAny _ _ (call (Value.ref _) [_]) _ _ _); k_dflt (refine' call_bnd (by k_asm) (by k_asm) (by k_mem) (by k_upd) ?_ (by first | assumption | omega | size_fits)); intro _ _ _; (try k_sweep))) | ((k_here; (with_reducible show wpAny _ _ (call (Value.ref _) [_]) _ _ _); k_dflt (refine' call_bnd (by k_asm) (by k_asm) (by k_mem) (by k_upd) ?_ (by first | assumption | omega | size_fits)); intro _ _ _; (try k_sweep)))) | (first | with_reducible (((with_reducible show StandsB _ _ _ ∧ _); k_dflt (refine ⟨standsB_of (by k_asm) (by k_mem), ?_⟩); (try dsimp only [List.nil_append, List.cons_append]))) | (((with_reducible show StandsB _ _ _ ∧ _); k_dflt (refine ⟨standsB_of (by k_asm) (by k_mem), ?_⟩); (try dsimp only [List.nil_append, List.cons_append])))) | (first | with_reducible ((k_here; (with_reducible show wpAny _ _ (callWith _ (Value.ref _) _ (backTo _ (starEach (_ :: _) _)) []) _ _ _); k_dflt (refine' callWith_bnd (by k_asm) (by k_mem) ?_; k_whole))) | ((k_here; (with_reducible show wpAny _ _ (callWith _ (Value.ref _) _ (backTo _ (starEach (_ :: _) _)) []) _ _ _); k_dflt (refine' callWith_bnd (by k_asm) (by k_mem) ?_; k_whole)))) | ((with_reducible show wpAny _ _ (joinParts _ (evalEach [] _)) _ _ _); (with_reducible refine' joinParts_nilE ?_); (with_reducible refine' joinParts_nil ?_ ?sz9); (case sz9 => with_reducible assumption)) | ((fail_if_success (with_reducible show wpAny _ _ (exec (Stmt.While _ _ _ _) _) _ _ _)); (fail_if_success (with_reducible show UnrEnd _ _ _ _ _ _ _)); (fail_if_success (with_reducible show _ = _ ∧ _)); walk1) | ((fail_if_success (with_reducible show wpAny _ _ (exec (Stmt.While _ _ _ _) _) _ _ _)); (fail_if_success (with_reducible show UnrEnd _ _ _ _ _ _ _)); (fail_if_success (with_reducible show _ = _ ∧ _)); dsimp only; walk1) | (leave1; walk_say "STEP leave1"; try dsimp only) | fail "no step"))
  all_goals first
    | refine tail_end ltl.2.2.1 (by k_asm) (by k_asm) ok9l rfl (by simp only [hns, if_false]; exact hi) (fun y h1 h2 => ?_)
    | refine tail_end2 ltl.2.2.1 (by rename_i ltt _ _ _ _ _ _; exact ltt.1) (by k_asm) (by k_asm) ok9l rfl (by simp only [hns, if_false]; exact hi) (fun y h1 h2 => ?_)
  all_goals (try simp only [h1, if_false])
  all_goals exact hm9 y h1 h2
theorem tail_conc {w : World} {A : Around} {E : Value → Shared → Prop} {s : Shared} {gg h1 : Heap} {Lf lr qa fl : Addr} {m9 m' : Str → Option Value} {t9l ol : Obj} {rv : List Value} {e tk1 : Nat} {rest : List (Addr × Obj)} {loose : List Str} {mean : ExcName → Option Value} {mg mb : Str → Option Value} {j : Int} {ti ts : Tok} {S p : Str}
    (F : Fr gg Lf h1 m') (N : News gg Lf h1 ((fl, ol) :: (99, t9l) :: (lr, listOf rv.toArray e) :: (qa, bndO lr) :: rest)) (X : (hd.heap_1 w.params).In gg) (T : Top topProg loose mean mg mb gg) (ok9l : T99 t9l) (hA : A.handled = none)
    (ltl : @LT.lt Nat _ 99 fl ∧ @LT.lt Nat _ lr fl ∧ @LT.lt Nat _ qa fl ∧ AllLt fl rest) (hall : ∀ p ∈ rest, p.1 ≠ lr) (hall9 : ∀ p ∈ rest, p.1 ≠ 99) (hlq : @LT.lt Nat _ lr qa) (h99 : @LT.lt Nat _ 99 lr) (hrv : rv.toArray.size ≤ sizeLine)
    (e1 : m' (Str.ofString "stuff") = some (.str S ts)) (e3 : m' (Str.ofString "add") = some (.ref qa)) (hi : m' (Str.ofString "i") = some (.int (j + 1) ti)) (hm9 : ∀ y, y ≠ Str.ofString "stuff" → y ≠ Str.ofString "i" → m' y = m9 y) (hz : S.length ≤ 1000)
    (hS : (S, p) ∈ [(Str.ofString "!", Str.ofString "."), (Str.ofString "", Str.ofString "(?!)")]) :
    wpAny (model PySem.Challenge.rw_ij0118_01.row.prog w) A (execs ((trTail w.params).drop 2) (trEnv w.params Lf)) (TailPost s gg Lf lr qa m9 rv e rest p j) E { s with heap := h1, toks := tk1 } := by
  simp only [List.mem_cons, Prod.mk.injEq, List.not_mem_nil, or_false] at hS
  rcases hS with ⟨rfl, rfl⟩ | ⟨rfl, rfl⟩
  all_goals (repeat' (first | (k_unfold; (try dsimp only)) | ((with_reducible show wpAny _ _ (call (Value.builtin "re.Pattern.sub") _) _ _ _); (first | with_reducible ((k_here; k_dflt (refine' sub_K (by first | assumption | rfl) (by k_asm) (by k_asm) (by k_asm) (by k_mem) (by assumption) (by first | assumption | exact miss_of (by decide +kernel)) (by first | assumption | decide +kernel) ?_); intro _ _ _ _ _; (try k_sweep))) | ((k_here; k_dflt (refine' sub_K (by first | assumption | rfl) (by k_asm) (by k_asm) (by k_asm) (by k_mem) (by assumption) (by first | assumption | exact miss_of (by decide +kernel)) (by first | assumption | decide +kernel) ?_); intro _ _ _ _ _; (try k_sweep))))) | (first | with_reducible ((k_here; (with_reducible show wpAny _ _ (getMethod (Value.ref 78) _ _) _ _ _); k_dflt (refine' getm_sub (by k_asm) (by k_asm) ?_))) | ((k_here; (with_reducible show wpAny _ _ (getMethod (Value.ref 78) _ _) _ _ _); k_dflt (refine' getm_sub (by k_asm) (by k_asm) ?_)))) | ((with_reducible show wpAny _ _ (eval (PySem.Expr.Lambda _ _ _ _) _) _ _ _); (first | with_reducible ((k_here; k_dflt (refine' kla_eval rfl ?_); k_dflt (refine' lam_any (by k_asm) (by k_asm) (by k_asm) (by assumption) rfl (by k_updF) (by assumption) rfl ?_); intro _ _ _ _ _ _ N' _ _ lt'; (try dsimp only at N'); (try k_lt lt')); (try (revert N' lt'; intro _ _))) | ((k_here; k_dflt (refine' kla_eval rfl ?_); k_dflt (refine' lam_any (by k_asm) (by k_asm) (by k_asm) (by assumption) rfl (by k_updF) (by assumption) rfl ?_); intro _ _ _ _ _ _ N' _ _ lt'; (try dsimp only at N'); (try k_lt lt')); (try (revert N' lt'; intro _ _))))) | (first | with_reducible ((k_here; (with_reducible show wpAny _ _ (call (Value.ref _) [_]) _ _ _); k_dflt (refine' call_bnd (by k_asm) (by k_asm) (by k_mem) (by k_upd) ?_ (by first | assumption | omega | size_fits)); intro _ _ _; (try k_sweep))) | ((k_here; (with_reducible show wpAny _ _ (call (Value.ref _) [_]) _ _ _); k_dflt (refine' call_bnd (by k_asm) (by k_asm) (by k_mem) (by k_upd) ?_ (by first | assumption | omega | size_fits)); intro _ _ _; (try k_sweep)))) | (first | with_reducible (((with_reducible show StandsB _ _ _ ∧ _); k_dflt (refine ⟨standsB_of (by k_asm) (by k_mem), ?_⟩); (try dsimp only [List.nil_append, List.cons_append]))) | (((with_reducible show StandsB _ _ _ ∧ _); k_dflt (refine ⟨standsB_of (by k_asm) (by k_mem), ?_⟩); (try dsimp only [List.nil_append, List.cons_append])))) | (first | with_reducible ((k_here; (with_reducible show wpAny _ _ (callWith _ (Value.ref _) _ (backTo _ (starEach (_ :: _) _)) []) _ _ _); k_dflt (refine' callWith_bnd (by k_asm) (by k_mem) ?_; k_whole))) | ((k_here; (with_reducible show wpAny _ _ (callWith _ (Value.ref _) _ (backTo _ (starEach (_ :: _) _)) []) _ _ _); k_dflt (refine' callWith_bnd (by k_asm) (by k_mem) ?_; k_whole)))) | ((with_reducible show wpAny _ _ (joinParts _ (evalEach [] _)) _ _ _); (with_reducible refine' joinParts_nilE ?_); (with_reducible refine' joinParts_nil ?_ ?sz9); (case sz9 => with_reducible assumption)) | ((fail_if_success (with_reducible show wpAny _ _ (exec (Stmt.While _ _ _ _) _) _ _ _)); (fail_if_success (with_reducible show UnrEnd _ _ _ _ _ _ _)); (fail_if_success (with_reducible show _ = _ ∧ _)); walk1) | ((fail_if_success (with_reducible show wpAny _ _ (exec (Stmt.While _ _ _ _) _) _ _ _)); (fail_if_success (with_reducible show UnrEnd _ _ _ _ _ _ _)); (fail_if_success (with_reducible show _ = _ ∧ _)); dsimp only; walk1) | (leave1; walk_say "STEP leave1"; try dsimp only) | fail "no step"))
  all_goals first
    | refine tail_end ltl.2.2.1 (by k_asm) (by k_asm) ok9l (by decide +kernel) (by first | exact hi | rfl) (fun y h1 h2 => ?_)
    | refine tail_end2 ltl.2.2.1 (by rename_i ltt _ _ _ _ _ _; exact ltt.1) (by k_asm) (by k_asm) ok9l (by decide +kernel) (by first | exact hi | rfl) (fun y h1 h2 => ?_)
  all_goals (try simp only [h1, if_false])
  all_goals exact hm9 y h1 h2
theorem tail_spec {w : World} {A : Around} {E : Value → Shared → Prop} {s : Shared} {gg : Heap} {Lf lr qa : Addr} {m9 : Str → Option Value} {t9 : Obj} {rv : List Value} {e : Nat} {rest : List (Addr × Obj)} {loose : List Str} {mean : ExcName → Option Value} {mg mb : Str → Option Value} {j : Int} {tj ts : Tok} {S p : Str}
    (hA : A.handled = none) (F : Fr gg Lf s.heap m9) (N : News gg Lf s.heap ((99, t9) :: (lr, listOf rv.toArray e) :: (qa, bndO lr) :: rest)) (X : (hd.heap_1 w.params).In gg) (T : Top topProg loose mean mg mb gg) (ok9 : T99 t9) (cd9 : CodeHd gg 103 99)
    (hall : ∀ p ∈ rest, p.1 ≠ lr) (hall9 : ∀ p ∈ rest, p.1 ≠ 99) (hlq : @LT.lt Nat _ lr qa) (h99 : @LT.lt Nat _ 99 lr) (hrv : rv.toArray.size ≤ sizeLine)
    (e1 : m9 (Str.ofString "stuff") = some (.str S ts)) (e2 : m9 (Str.ofString "j") = some (.int j tj)) (e3 : m9 (Str.ofString "add") = some (.ref qa))
    (hS : (S, p) ∈ [(Str.ofString "ab", Str.ofString "[ab]"), (Str.ofString "!a", Str.ofString "[^a]"), (Str.ofString "a-c", Str.ofString "[a-c]"), (Str.ofString "c\\-", Str.ofString "[c\\-]"), (Str.ofString "!\\-b", Str.ofString "[^\\-b]"), (Str.ofString "!", Str.ofString "."), (Str.ofString "!a-b", Str.ofString "[^a-b]"), (Str.ofString "", Str.ofString "(?!)")]) :
    wpAny (model PySem.Challenge.rw_ij0118_01.row.prog w) A (execs (trTail w.params) (trEnv w.params Lf)) (TailPost s gg Lf lr qa m9 rv e rest p j) E s := by
  have hm : Miss S := by
    simp only [List.mem_cons, Prod.mk.injEq, List.not_mem_nil, or_false] at hS
    rcases hS with ⟨rfl, _⟩ | ⟨rfl, _⟩ | ⟨rfl, _⟩ | ⟨rfl, _⟩ | ⟨rfl, _⟩ | ⟨rfl, _⟩ | ⟨rfl, _⟩ | ⟨rfl, _⟩ <;> exact miss_of (by decide +kernel)
  have hz : S.length ≤ 1000 := by
    simp only [List.mem_cons, Prod.mk.injEq, List.not_mem_nil, or_false] at hS
    rcases hS with ⟨rfl, _⟩ | ⟨rfl, _⟩ | ⟨rfl, _⟩ | ⟨rfl, _⟩ | ⟨rfl, _⟩ | ⟨rfl, _⟩ | ⟨rfl, _⟩ | ⟨rfl, _⟩ <;> decide +kernel
  refine execs_app 2 ?_
  (repeat' (first | (k_unfold; (try dsimp only)) | ((with_reducible show wpAny _ _ (call (Value.builtin "re.Pattern.sub") _) _ _ _); (first | with_reducible ((k_here; k_dflt (refine' sub_K (by first | assumption | rfl) (by k_asm) (by k_asm) (by k_asm) (by k_mem) (by assumption) (by first | assumption | exact miss_of (by decide +kernel)) (by first | assumption | decide +kernel) ?_); intro _ _ _ _ _; (try k_sweep))) | ((k_here; k_dflt (refine' sub_K (by first | assumption | rfl) (by k_asm) (by k_asm) (by k_asm) (by k_mem) (by assumption) (by first | assumption | exact miss_of (by decide +kernel)) (by first | assumption | decide +kernel) ?_); intro _ _ _ _ _; (try k_sweep))))) | (first | with_reducible ((k_here; (with_reducible show wpAny _ _ (getMethod (Value.ref 78) _ _) _ _ _); k_dflt (refine' getm_sub (by k_asm) (by k_asm) ?_))) | ((k_here; (with_reducible show wpAny _ _ (getMethod (Value.ref 78) _ _) _ _ _); k_dflt (refine' getm_sub (by k_asm) (by k_asm) ?_)))) | ((with_reducible show wpAny _ _ (eval (PySem.Expr.Lambda _ _ _ _) _) _ _ _); (first | with_reducible ((k_here; k_dflt (refine' kla_eval rfl ?_); k_dflt (refine' lam_any (by k_asm) (by k_asm) (by k_asm) (by assumption) rfl (by k_updF) (by assumption) rfl ?_); intro _ _ _ _ _ _ N' _ _ lt'; (try dsimp only at N'); (try k_lt lt')); (try (revert N' lt'; intro _ _))) | ((k_here; k_dflt (refine' kla_eval rfl ?_); k_dflt (refine' lam_any (by k_asm) (by k_asm) (by k_asm) (by assumption) rfl (by k_updF) (by assumption) rfl ?_); intro _ _ _ _ _ _ N' _ _ lt'; (try dsimp only at N'); (try k_lt lt')); (try (revert N' lt'; intro _ _))))) | (first | with_reducible ((k_here; (with_reducible show wpAny _ _ (call (Value.ref _) [_]) _ _ _); k_dflt (refine' call_bnd (by k_asm) (by k_asm) (by k_mem) (by k_upd) ?_ (by first | assumption | omega | size_fits)); intro _ _ _; (try k_sweep))) | ((k_here; (with_reducible show wpAny _ _ (call (Value.ref _) [_]) _ _ _); k_dflt (refine' call_bnd (by k_asm) (by k_asm) (by k_mem) (by k_upd) ?_ (by first | assumption | omega | size_fits)); intro _ _ _; (try k_sweep)))) | (first | with_reducible (((with_reducible show StandsB _ _ _ ∧ _); k_dflt (refine ⟨standsB_of (by k_asm) (by k_mem), ?_⟩); (try dsimp only [List.nil_append, List.cons_append]))) | (((with_reducible show StandsB _ _ _ ∧ _); k_dflt (refine ⟨standsB_of (by k_asm) (by k_mem), ?_⟩); (try dsimp only [List.nil_append, List.cons_append])))) | (first | with_reducible ((k_here; (with_reducible show wpAny _ _ (callWith _ (Value.ref _) _ (backTo _ (starEach (_ :: _) _)) []) _ _ _); k_dflt (refine' callWith_bnd (by k_asm) (by k_mem) ?_; k_whole))) | ((k_here; (with_reducible show wpAny _ _ (callWith _ (Value.ref _) _ (backTo _ (starEach (_ :: _) _)) []) _ _ _); k_dflt (refine' callWith_bnd (by k_asm) (by k_mem) ?_; k_whole)))) | ((with_reducible show wpAny _ _ (joinParts _ (evalEach [] _)) _ _ _); (with_reducible refine' joinParts_nilE ?_); (with_reducible refine' joinParts_nil ?_ ?sz9); (case sz9 => with_reducible assumption)) | ((fail_if_success (with_reducible show wpAny _ _ (exec (Stmt.While _ _ _ _) _) _ _ _)); (fail_if_success (with_reducible show UnrEnd _ _ _ _ _ _ _)); (fail_if_success (with_reducible show _ = _ ∧ _)); walk1) | ((fail_if_success (with_reducible show wpAny _ _ (exec (Stmt.While _ _ _ _) _) _ _ _)); (fail_if_success (with_reducible show UnrEnd _ _ _ _ _ _ _)); (fail_if_success (with_reducible show _ = _ ∧ _)); dsimp only; walk1) | (leave1; walk_say "STEP leave1"; try dsimp only) | fail "no step"))
  rename Fr _ _ _ _ => F8
  rename News _ _ _ _ => N8
  rename T99 _ => ok9l
  rename _ ∧ _ ∧ _ ∧ AllLt _ _ => ltl
  refine wpAny_execs_nil ⟨rfl, ?_⟩
  simp only [List.mem_cons, Prod.mk.injEq, List.not_mem_nil, or_false] at hS
  rcases hS with ⟨rfl, rfl⟩ | ⟨rfl, rfl⟩ | ⟨rfl, rfl⟩ | ⟨rfl, rfl⟩ | ⟨rfl, rfl⟩ | hS | ⟨rfl, rfl⟩ | hS
  · exact (show (Str.empty ++ Str.ofString "[" ++ Str.ofString "ab" ++ Str.ofString "]") = Str.ofString "[ab]" by decide +kernel) ▸ tail_plain F8 N8 X T ok9l hA ltl hall hall9 hlq h99 hrv rfl e3 rfl (fun y h1 h2 => by simp only [h1, h2, if_false]) hz rfl (by decide +kernel) (by decide +kernel) (by decide +kernel) (by decide +kernel)
  · exact (show (Str.empty ++ Str.ofString "[" ++ (Str.ofString "^" ++ Txt.slice (Str.ofString "!a") (some 1) none) ++ Str.ofString "]") = Str.ofString "[^a]" by decide +kernel) ▸ tail_barred F8 N8 X T ok9l hA ltl hall hall9 hlq h99 hrv rfl e3 rfl (fun y h1 h2 => by simp only [h1, h2, if_false]) hz rfl (by decide +kernel) (by decide +kernel) (by decide +kernel)
  · exact (show (Str.empty ++ Str.ofString "[" ++ Str.ofString "a-c" ++ Str.ofString "]") = Str.ofString "[a-c]" by decide +kernel) ▸ tail_plain F8 N8 X T ok9l hA ltl hall hall9 hlq h99 hrv rfl e3 rfl (fun y h1 h2 => by simp only [h1, h2, if_false]) hz rfl (by decide +kernel) (by decide +kernel) (by decide +kernel) (by decide +kernel)
  · exact (show (Str.empty ++ Str.ofString "[" ++ Str.ofString "c\\-" ++ Str.ofString "]") = Str.ofString "[c\\-]" by decide +kernel) ▸ tail_plain F8 N8 X T ok9l hA ltl hall hall9 hlq h99 hrv rfl e3 rfl (fun y h1 h2 => by simp only [h1, h2, if_false]) hz rfl (by decide +kernel) (by decide +kernel) (by decide +kernel) (by decide +kernel)
  · exact (show (Str.empty ++ Str.ofString "[" ++ (Str.ofString "^" ++ Txt.slice (Str.ofString "!\\-b") (some 1) none) ++ Str.ofString "]") = Str.ofString "[^\\-b]" by decide +kernel) ▸ tail_barred F8 N8 X T ok9l hA ltl hall hall9 hlq h99 hrv rfl e3 rfl (fun y h1 h2 => by simp only [h1, h2, if_false]) hz rfl (by decide +kernel) (by decide +kernel) (by decide +kernel)
  · exact tail_conc F8 N8 X T ok9l hA ltl hall hall9 hlq h99 hrv rfl e3 rfl (fun y h1 h2 => by simp only [h1, h2, if_false]) hz (by simp [hS])
  · exact (show (Str.empty ++ Str.ofString "[" ++ (Str.ofString "^" ++ Txt.slice (Str.ofString "!a-b") (some 1) none) ++ Str.ofString "]") = Str.ofString "[^a-b]" by decide +kernel) ▸ tail_barred F8 N8 X T ok9l hA ltl hall hall9 hlq h99 hrv rfl e3 rfl (fun y h1 h2 => by simp only [h1, h2, if_false]) hz rfl (by decide +kernel) (by decide +kernel) (by decide +kernel)
  · exact tail_conc F8 N8 X T ok9l hA ltl hall hall9 hlq h99 hrv rfl e3 rfl (fun y h1 h2 => by simp only [h1, h2, if_false]) hz (by simp [hS])

end
-- T2
section
theorem fillT2 : PySem.Challenge.rw_ij0118_01 = PySem.Challenge.rw_ij0118_01 ∧ hd.heap_1 = hd.heap_1 := by
  k_fill
  exact ⟨rfl, rfl⟩


inductive JoinPost (s : Shared) (gg : Heap) (Lf : Addr) (m9 : Str → Option Value) (rest : List (Addr × Obj)) (S : Str) (f : Flow) (s' : Shared) : Prop
  | mk : f = .next → ∀ (m' : Str → Option Value) (t9' : Obj) (t : Tok), s'.os = s.os → Fr gg Lf s'.heap m' → News gg Lf s'.heap ((99, t9') :: rest) → T99 t9' → AllBare s'.gens → m' (Str.ofString "stuff") = some (.str S t) → (∀ y, y ≠ Str.ofString "stuff" → m' y = m9 y) → JoinPost s gg Lf m9 rest S f s'
theorem join_spec {w : World} {A : Around} {E : Value → Shared → Prop} {s : Shared} {gg : Heap} {Lf D : Addr} {m9 : Str → Option Value} {t9 : Obj} {rest : List (Addr × Obj)} {loose : List Str} {mean : ExcName → Option Value} {mg mb : Str → Option Value} {vs : List Value} {ss : List Str} {n : Nat}
    (hA : A.handled = none) (hdep : A.depth < 900) (F : Fr gg Lf s.heap m9) (N : News gg Lf s.heap ((99, t9) :: rest)) (X : (hd.heap_1 w.params).In gg) (T : Top topProg loose mean mg mb gg) (ok9 : T99 t9) (cd9 : CodeHd gg 103 99) (G : AllBare s.gens)
    (hall9 : ∀ p ∈ rest, p.1 ≠ 99) (hD : (D, listOf vs.toArray n) ∈ rest) (hss : StrsAre vs ss) (hlen : ss.length ≤ 2) (hno : ∀ a ∈ ss, (Builtin.Str.occurrences a (Str.ofString "\\") 0 a.length (a.length + 1)).isEmpty = true ∧ a.length ≤ 10)
    (hjo : JoinOk (Str.ofString "-") (ss.map escP) = true) (e1 : m9 (Str.ofString "chunks") = some (.ref D)) :
    wpAny (model PySem.Challenge.rw_ij0118_01.row.prog w) A (execs (trJoin w.params) (trEnv w.params Lf)) (JoinPost s gg Lf m9 rest (Txt.join (Str.ofString "-") (ss.map escP))) E s := by
  have hD9 : D ≠ 99 := hall9 _ hD
  iterate 7 (first | walk1 | (dsimp only; walk1) | skip)
  refine gen_src (f := escP) F N (UpdF.head hall9) ok9 cd9 rfl T rfl G (.tail _ hD) hD9 hss hA rfl rfl (by decide) (by decide) (by decide) rfl (by show A.depth < recursionLimit; have : recursionLimit = 1000 := rfl; omega) ?_ ?_ ?_ (fun _ => by with_unfolding_all rfl)
  · exact nameX_L F e1 ⟨rfl, rfl⟩ rfl rfl
  · intro code Cc A' E' a t u m₂ hA' _ _ ha hn hm
    obtain ⟨ha1, ha2⟩ := hno a ha
    iterate 2 (first | walk1 | (dsimp only; walk1))
    refine wpAny_Name (wpAny_loadName_local rfl rfl hn hm ?_) (by decide)
    iterate 7 (first | walk1 | (dsimp only; walk1))
    refine replace_none ha1 ?_
    iterate 7 (first | walk1 | (dsimp only; walk1) | skip)
    refine SC.replaceW (Nat.succ_ne_zero _) (Nat.succ_ne_zero _) (Nat.ne_of_lt (Nat.lt_succ_self _)) (by decide +kernel) (Nat.le_trans ha2 (by decide)) (by decide +kernel) fun t' k' => ?_
    exact ⟨⟨_, rfl⟩, u.heap, k', rfl, fun _ _ e => e⟩
  · intro a h' g' tk t9' Kb F' N' ok' G' hLK hle X'
    iterate 1 (first | walk1 | (dsimp only; walk1))
    try dsimp only
    refine join_gen_K F' N' G' X' hLK hle hjo (by omega) ?_
    intro s' t' F' N' G' hos
    refine storeX_L F' N' (fun h' F' N' => ?_) rfl rfl
    refine wpAny_execs_nil ⟨rfl, _, t9', t', hos, F', N', ok', G', by simp, fun y hy => by simp only [hy, if_false]⟩

end
-- T3
section
theorem fillT3 : PySem.Challenge.rw_ij0118_01 = PySem.Challenge.rw_ij0118_01 ∧ hd.heap_1 = hd.heap_1 := by
  k_fill
  exact ⟨rfl, rfl⟩
end
local macro_rules | `(tactic| passes_own) => `(tactic| assumption)
section
inductive DashPost (s : Shared) (gg : Heap) (Lf : Addr) (m9 : Str → Option Value) (rest : List (Addr × Obj)) (S : Str) (f : Flow) (s' : Shared) : Prop
  | mk : (f = .next) → ∀ m' t9' t junk, (s'.os = s.os) → (Fr gg Lf s'.heap m') → (News gg Lf s'.heap ((99, t9') :: (junk ++ rest))) → ((∀ q ∈ junk, ∀ r ∈ rest, @LT.lt Nat _ r.1 q.1)) → (T99 t9') → (AllBare s'.gens) → (m' (Str.ofString "stuff") = some (.str S t)) → (∀ y, y ≠ Str.ofString "stuff" → y ≠ Str.ofString "chunks" → y ≠ Str.ofString "chunk" → y ≠ Str.ofString "k" → y ≠ Str.ofString "i" → m' y = m9 y) → DashPost s gg Lf m9 rest S f s'
theorem unrEnd_of {h₀ : Heap} {L I : Addr} {it : Obj} {rest : (Str → Option Value) → List (Addr × Obj) → Prop} {s₁ : Shared} {h' : Heap} {tk : Nat} {m' : Str → Option Value} {news' : List (Addr × Obj)} (F : Fr h₀ L h' m') (N : News h₀ L h' ((I, it) :: news'))
    (off : ∀ p ∈ news', p.1 ≠ I) (r : rest m' news') : UnrEnd h₀ L s₁ I it rest { s₁ with heap := h', toks := tk } := UnrEnd.intro F N news' (fun _ hp => hp) off r
theorem news_swap {h₀ h : Heap} {L : Addr} {a b : Addr × Obj} {r : List (Addr × Obj)} (N : News h₀ L h (a :: b :: r)) : News h₀ L h (b :: a :: r) := news_perm N fun p hp => by
  rcases List.mem_cons.mp hp with rfl | hp
  · exact .tail _ (.head _)
  · rcases List.mem_cons.mp hp with rfl | hp
    · exact .head _
    · exact .tail _ (.tail _ hp)
theorem dash3 {w : World} {A : Around} {E : Value → Shared → Prop} {s : Shared} {gg : Heap} {Lf : Addr} {m9 : Str → Option Value} {t9 : Obj} {rest : List (Addr × Obj)} {loose : List Str} {mean : ExcName → Option Value} {mg mb : Str → Option Value} {P : Str} {x e : Int} {ti tj tp : Tok}
    (hPO : PassesOwn (model PySem.Challenge.rw_ij0118_01.row.prog w) A (trEnv w.params Lf) E) (hA : A.handled = none) (hdep : A.depth < 900) (F : Fr gg Lf s.heap m9) (N : News gg Lf s.heap ((99, t9) :: rest)) (X : (hd.heap_1 w.params).In gg) (T : Top topProg loose mean mg mb gg) (ok9 : T99 t9) (cd9 : CodeHd gg 103 99) (G : AllBare s.gens)
    (hall9 : ∀ p ∈ rest, p.1 ≠ 99) (hP : P.length ≤ 1000) (hx : 0 ≤ x ∧ x < e ∧ e < 1000) (p1 : m9 (Str.ofString "pat") = some (.str P tp)) (p2 : m9 (Str.ofString "i") = some (.int x ti)) (p3 : m9 (Str.ofString "j") = some (.int e tj))
    (i0 : ItemAt P x (Str.ofString "a")) (f1 : FindAt P (Str.ofString "-") (x + 1) e (x + 1)) (s2 : SliceAt P x (x + 1) (Str.ofString "a")) (f2 : FindAt P (Str.ofString "-") (x + 1 + 3) e (-1)) (s3 : SliceAt P (x + 1 + 1) e (Str.ofString "c")) :
    wpAny (model PySem.Challenge.rw_ij0118_01.row.prog w) A (execs (trDash w.params) (trEnv w.params Lf)) (DashPost s gg Lf m9 rest (Str.ofString "a-c")) E s := by
  iterate 2 (first | walk1 | (dsimp only; walk1) | skip)
  (repeat' (first | (k_unfold; (try dsimp only)) | ((with_reducible show wpAny _ _ (call (Value.builtin "str.find") _) _ _ _); (first | with_reducible ((k_here; (first | ((with_reducible refine' find_at ?q ?_); (case q => with_reducible assumption)) | k_dflt (refine find_at (by assumption) ?_)))) | ((k_here; (first | ((with_reducible refine' find_at ?q ?_); (case q => with_reducible assumption)) | k_dflt (refine find_at (by assumption) ?_)))))) | ((with_reducible show wpAny _ _ (subscriptTail _ (PySem.Expr.Slice _ _ _ _) (Value.str _ _) (Value.ref _)) _ _ _); (first | with_reducible ((k_here; (first | (k_dflt (refine' slice_at (by k_asm) (by k_asm) (by with_reducible assumption) (by with_reducible assumption) ?_)) | k_dflt (refine' slice_at (by k_asm) (by k_asm) (by assumption) (by assumption) ?_)); intro _ _ _ _ _; (try k_sweep))) | ((k_here; (first | (k_dflt (refine' slice_at (by k_asm) (by k_asm) (by with_reducible assumption) (by with_reducible assumption) ?_)) | k_dflt (refine' slice_at (by k_asm) (by k_asm) (by assumption) (by assumption) ?_)); intro _ _ _ _ _; (try k_sweep))))) | ((fail_if_success (with_reducible show wpAny _ _ (exec (Stmt.While _ _ _ _) _) _ _ _)); (fail_if_success (with_reducible show UnrEnd _ _ _ _ _ _ _)); (fail_if_success (with_reducible show _ = _ ∧ _)); walk1) | ((fail_if_success (with_reducible show wpAny _ _ (exec (Stmt.While _ _ _ _) _) _ _ _)); (fail_if_success (with_reducible show UnrEnd _ _ _ _ _ _ _)); (fail_if_success (with_reducible show _ = _ ∧ _)); dsimp only; walk1) | (leave1; walk_say "STEP leave1"; try dsimp only) | fail "no step"))
  refine whl_start 10 ?_
  (repeat' (first | (k_unfold; (try dsimp only)) | ((with_reducible show wpAny _ _ (call (Value.builtin "str.find") _) _ _ _); (first | with_reducible ((k_here; (first | ((with_reducible refine' find_at ?q ?_); (case q => with_reducible assumption)) | k_dflt (refine find_at (by assumption) ?_)))) | ((k_here; (first | ((with_reducible refine' find_at ?q ?_); (case q => with_reducible assumption)) | k_dflt (refine find_at (by assumption) ?_)))))) | ((with_reducible show wpAny _ _ (subscriptTail _ (PySem.Expr.Slice _ _ _ _) (Value.str _ _) (Value.ref _)) _ _ _); (first | with_reducible ((k_here; (first | (k_dflt (refine' slice_at (by k_asm) (by k_asm) (by with_reducible assumption) (by with_reducible assumption) ?_)) | k_dflt (refine' slice_at (by k_asm) (by k_asm) (by assumption) (by assumption) ?_)); intro _ _ _ _ _; (try k_sweep))) | ((k_here; (first | (k_dflt (refine' slice_at (by k_asm) (by k_asm) (by with_reducible assumption) (by with_reducible assumption) ?_)) | k_dflt (refine' slice_at (by k_asm) (by k_asm) (by assumption) (by assumption) ?_)); intro _ _ _ _ _; (try k_sweep))))) | ((fail_if_success (with_reducible show wpAny _ _ (exec (Stmt.While _ _ _ _) _) _ _ _)); (fail_if_success (with_reducible show UnrEnd _ _ _ _ _ _ _)); (fail_if_success (with_reducible show _ = _ ∧ _)); walk1) | ((fail_if_success (with_reducible show wpAny _ _ (exec (Stmt.While _ _ _ _) _) _ _ _)); (fail_if_success (with_reducible show UnrEnd _ _ _ _ _ _ _)); (fail_if_success (with_reducible show _ = _ ∧ _)); dsimp only; walk1) | (leave1; walk_say "STEP leave1"; try dsimp only) | fail "no step"))
  rename IsRange _ _ _ _ _ _ _ _ => rR
  rename Fr _ _ _ _ => lF
  rename News _ _ _ _ => lN
  with_unfolding_all refine krs_iter (n := 1) hA rR (by first | decide | rfl) (by first | decide | rfl) lF lN ?_
  clear lF lN
  intro iI l1
  try k_lt l1
  (repeat' (first | (k_unfold; (try dsimp only)) | ((with_reducible show wpAny _ _ (call (Value.builtin "str.find") _) _ _ _); (first | with_reducible ((k_here; (first | ((with_reducible refine' find_at ?q ?_); (case q => with_reducible assumption)) | k_dflt (refine find_at (by assumption) ?_)))) | ((k_here; (first | ((with_reducible refine' find_at ?q ?_); (case q => with_reducible assumption)) | k_dflt (refine find_at (by assumption) ?_)))))) | ((with_reducible show wpAny _ _ (subscriptTail _ (PySem.Expr.Slice _ _ _ _) (Value.str _ _) (Value.ref _)) _ _ _); (first | with_reducible ((k_here; (first | (k_dflt (refine' slice_at (by k_asm) (by k_asm) (by with_reducible assumption) (by with_reducible assumption) ?_)) | k_dflt (refine' slice_at (by k_asm) (by k_asm) (by assumption) (by assumption) ?_)); intro _ _ _ _ _; (try k_sweep))) | ((k_here; (first | (k_dflt (refine' slice_at (by k_asm) (by k_asm) (by with_reducible assumption) (by with_reducible assumption) ?_)) | k_dflt (refine' slice_at (by k_asm) (by k_asm) (by assumption) (by assumption) ?_)); intro _ _ _ _ _; (try k_sweep))))) | ((fail_if_success (with_reducible show wpAny _ _ (exec (Stmt.While _ _ _ _) _) _ _ _)); (fail_if_success (with_reducible show UnrEnd _ _ _ _ _ _ _)); (fail_if_success (with_reducible show _ = _ ∧ _)); walk1) | ((fail_if_success (with_reducible show wpAny _ _ (exec (Stmt.While _ _ _ _) _) _ _ _)); (fail_if_success (with_reducible show UnrEnd _ _ _ _ _ _ _)); (fail_if_success (with_reducible show _ = _ ∧ _)); dsimp only; walk1) | (leave1; walk_say "STEP leave1"; try dsimp only) | fail "no step"))
  refine unrEnd_of (by k_asm) (by k_asm) ?off ?inv
  case off => k_all
  refine KrsRest.zero (fun hz tz Fz Nz => ?_)
  try dsimp only
  refine wpAny_mono (join_spec (vs := [_, _]) (ss := [Str.ofString "a", Str.ofString "c"]) hA hdep (by k_asm) (news_swap Nz) X T ok9 cd9 G (by k_all) (.head _) (.cons _ _ (.cons _ _ .nil)) (by decide) (by decide +kernel) (by decide +kernel) rfl) ?_ fun _ _ e => e
  rintro f s' ⟨rfl, m', t9', t, hos, F', N', ok', G', hst, hsame⟩
  refine ⟨rfl, m', t9', t, [_], hos, F', N', ?_, ok', G', ?_, ?_⟩
  · intro q hq r hr
    rw [List.mem_singleton.mp hq]
    exact allLt_all' (by k_slotget) r hr
  · rw [hst]
    congr 2
    decide +kernel
  · intro y h1 h2 h3 h4 h5
    rw [hsame y h1]
    simp only [h1, h2, h3, h4, h5, if_false]

end
-- T4
section
theorem fillT4 : PySem.Challenge.rw_ij0118_01 = PySem.Challenge.rw_ij0118_01 ∧ hd.heap_1 = hd.heap_1 := by
  k_fill
  exact ⟨rfl, rfl⟩


theorem dash8 {w : World} {A : Around} {E : Value → Shared → Prop} {s : Shared} {gg : Heap} {Lf : Addr} {m9 : Str → Option Value} {t9 : Obj} {rest : List (Addr × Obj)} {loose : List Str} {mean : ExcName → Option Value} {mg mb : Str → Option Value} {P : Str} {x e : Int} {ti tj tp : Tok}
    (hPO : PassesOwn (model PySem.Challenge.rw_ij0118_01.row.prog w) A (trEnv w.params Lf) E) (hA : A.handled = none) (hdep : A.depth < 900) (F : Fr gg Lf s.heap m9) (N : News gg Lf s.heap ((99, t9) :: rest)) (X : (hd.heap_1 w.params).In gg) (T : Top topProg loose mean mg mb gg) (ok9 : T99 t9) (cd9 : CodeHd gg 103 99) (G : AllBare s.gens)
    (hall9 : ∀ p ∈ rest, p.1 ≠ 99) (hP : P.length ≤ 1000) (hx : 0 ≤ x ∧ x < e ∧ e < 1000) (p1 : m9 (Str.ofString "pat") = some (.str P tp)) (p2 : m9 (Str.ofString "i") = some (.int x ti)) (p3 : m9 (Str.ofString "j") = some (.int e tj))
    (i0 : ItemAt P x (Str.ofString "!")) (f1 : FindAt P (Str.ofString "-") (x + 2) e (x + 2)) (s2 : SliceAt P x (x + 2) (Str.ofString "!a")) (f2 : FindAt P (Str.ofString "-") (x + 2 + 3) e (-1)) (s3 : SliceAt P (x + 2 + 1) e (Str.ofString "b")) :
    wpAny (model PySem.Challenge.rw_ij0118_01.row.prog w) A (execs (trDash w.params) (trEnv w.params Lf)) (DashPost s gg Lf m9 rest (Str.ofString "!a-b")) E s := by
  iterate 2 (first | walk1 | (dsimp only; walk1) | skip)
  (repeat' (first | (k_unfold; (try dsimp only)) | ((with_reducible show wpAny _ _ (call (Value.builtin "str.find") _) _ _ _); (first | with_reducible ((k_here; (first | ((with_reducible refine' find_at ?q ?_); (case q => with_reducible assumption)) | k_dflt (refine find_at (by assumption) ?_)))) | ((k_here; (first | ((with_reducible refine' find_at ?q ?_); (case q => with_reducible assumption)) | k_dflt (refine find_at (by assumption) ?_)))))) | ((with_reducible show wpAny _ _ (subscriptTail _ (PySem.Expr.Slice _ _ _ _) (Value.str _ _) (Value.ref _)) _ _ _); (first | with_reducible ((k_here; (first | (k_dflt (refine' slice_at (by k_asm) (by k_asm) (by with_reducible assumption) (by with_reducible assumption) ?_)) | k_dflt (refine' slice_at (by k_asm) (by k_asm) (by assumption) (by assumption) ?_)); intro _ _ _ _ _; (try k_sweep))) | ((k_here; (first | (k_dflt (refine' slice_at (by k_asm) (by k_asm) (by with_reducible assumption) (by with_reducible assumption) ?_)) | k_dflt (refine' slice_at (by k_asm) (by k_asm) (by assumption) (by assumption) ?_)); intro _ _ _ _ _; (try k_sweep))))) | ((fail_if_success (with_reducible show wpAny _ _ (exec (Stmt.While _ _ _ _) _) _ _ _)); (fail_if_success (with_reducible show UnrEnd _ _ _ _ _ _ _)); (fail_if_success (with_reducible show _ = _ ∧ _)); walk1) | ((fail_if_success (with_reducible show wpAny _ _ (exec (Stmt.While _ _ _ _) _) _ _ _)); (fail_if_success (with_reducible show UnrEnd _ _ _ _ _ _ _)); (fail_if_success (with_reducible show _ = _ ∧ _)); dsimp only; walk1) | (leave1; walk_say "STEP leave1"; try dsimp only) | fail "no step"))
  refine whl_start 10 ?_
  (repeat' (first | (k_unfold; (try dsimp only)) | ((with_reducible show wpAny _ _ (call (Value.builtin "str.find") _) _ _ _); (first | with_reducible ((k_here; (first | ((with_reducible refine' find_at ?q ?_); (case q => with_reducible assumption)) | k_dflt (refine find_at (by assumption) ?_)))) | ((k_here; (first | ((with_reducible refine' find_at ?q ?_); (case q => with_reducible assumption)) | k_dflt (refine find_at (by assumption) ?_)))))) | ((with_reducible show wpAny _ _ (subscriptTail _ (PySem.Expr.Slice _ _ _ _) (Value.str _ _) (Value.ref _)) _ _ _); (first | with_reducible ((k_here; (first | (k_dflt (refine' slice_at (by k_asm) (by k_asm) (by with_reducible assumption) (by with_reducible assumption) ?_)) | k_dflt (refine' slice_at (by k_asm) (by k_asm) (by assumption) (by assumption) ?_)); intro _ _ _ _ _; (try k_sweep))) | ((k_here; (first | (k_dflt (refine' slice_at (by k_asm) (by k_asm) (by with_reducible assumption) (by with_reducible assumption) ?_)) | k_dflt (refine' slice_at (by k_asm) (by k_asm) (by assumption) (by assumption) ?_)); intro _ _ _ _ _; (try k_sweep))))) | ((fail_if_success (with_reducible show wpAny _ _ (exec (Stmt.While _ _ _ _) _) _ _ _)); (fail_if_success (with_reducible show UnrEnd _ _ _ _ _ _ _)); (fail_if_success (with_reducible show _ = _ ∧ _)); walk1) | ((fail_if_success (with_reducible show wpAny _ _ (exec (Stmt.While _ _ _ _) _) _ _ _)); (fail_if_success (with_reducible show UnrEnd _ _ _ _ _ _ _)); (fail_if_success (with_reducible show _ = _ ∧ _)); dsimp only; walk1) | (leave1; walk_say "STEP leave1"; try dsimp only) | fail "no step"))
  rename IsRange _ _ _ _ _ _ _ _ => rR
  rename Fr _ _ _ _ => lF
  rename News _ _ _ _ => lN
  with_unfolding_all refine krs_iter (n := 1) hA rR (by first | decide | rfl) (by first | decide | rfl) lF lN ?_
  clear lF lN
  intro iI l1
  try k_lt l1
  (repeat' (first | (k_unfold; (try dsimp only)) | ((with_reducible show wpAny _ _ (call (Value.builtin "str.find") _) _ _ _); (first | with_reducible ((k_here; (first | ((with_reducible refine' find_at ?q ?_); (case q => with_reducible assumption)) | k_dflt (refine find_at (by assumption) ?_)))) | ((k_here; (first | ((with_reducible refine' find_at ?q ?_); (case q => with_reducible assumption)) | k_dflt (refine find_at (by assumption) ?_)))))) | ((with_reducible show wpAny _ _ (subscriptTail _ (PySem.Expr.Slice _ _ _ _) (Value.str _ _) (Value.ref _)) _ _ _); (first | with_reducible ((k_here; (first | (k_dflt (refine' slice_at (by k_asm) (by k_asm) (by with_reducible assumption) (by with_reducible assumption) ?_)) | k_dflt (refine' slice_at (by k_asm) (by k_asm) (by assumption) (by assumption) ?_)); intro _ _ _ _ _; (try k_sweep))) | ((k_here; (first | (k_dflt (refine' slice_at (by k_asm) (by k_asm) (by with_reducible assumption) (by with_reducible assumption) ?_)) | k_dflt (refine' slice_at (by k_asm) (by k_asm) (by assumption) (by assumption) ?_)); intro _ _ _ _ _; (try k_sweep))))) | ((fail_if_success (with_reducible show wpAny _ _ (exec (Stmt.While _ _ _ _) _) _ _ _)); (fail_if_success (with_reducible show UnrEnd _ _ _ _ _ _ _)); (fail_if_success (with_reducible show _ = _ ∧ _)); walk1) | ((fail_if_success (with_reducible show wpAny _ _ (exec (Stmt.While _ _ _ _) _) _ _ _)); (fail_if_success (with_reducible show UnrEnd _ _ _ _ _ _ _)); (fail_if_success (with_reducible show _ = _ ∧ _)); dsimp only; walk1) | (leave1; walk_say "STEP leave1"; try dsimp only) | fail "no step"))
  refine unrEnd_of (by k_asm) (by k_asm) ?off ?inv
  case off => k_all
  refine KrsRest.zero (fun hz tz Fz Nz => ?_)
  try dsimp only
  refine wpAny_mono (join_spec (vs := [_, _]) (ss := [Str.ofString "!a", Str.ofString "b"]) hA hdep (by k_asm) (news_swap Nz) X T ok9 cd9 G (by k_all) (.head _) (.cons _ _ (.cons _ _ .nil)) (by decide) (by decide +kernel) (by decide +kernel) rfl) ?_ fun _ _ e => e
  rintro f s' ⟨rfl, m', t9', t, hos, F', N', ok', G', hst, hsame⟩
  refine ⟨rfl, m', t9', t, [_], hos, F', N', ?_, ok', G', ?_, ?_⟩
  · intro q hq r hr
    rw [List.mem_singleton.mp hq]
    exact allLt_all' (by k_slotget) r hr
  · rw [hst]
    congr 2
    decide +kernel
  · intro y h1 h2 h3 h4 h5
    rw [hsame y h1]
    simp only [h1, h2, h3, h4, h5, if_false]

end
-- T5
section
theorem fillT5 : PySem.Challenge.rw_ij0118_01 = PySem.Challenge.rw_ij0118_01 ∧ hd.heap_1 = hd.heap_1 := by
  k_fill
  exact ⟨rfl, rfl⟩


theorem dash5 {w : World} {A : Around} {E : Value → Shared → Prop} {s : Shared} {gg : Heap} {Lf : Addr} {m9 : Str → Option Value} {t9 : Obj} {rest : List (Addr × Obj)} {loose : List Str} {mean : ExcName → Option Value} {mg mb : Str → Option Value} {P : Str} {x e : Int} {ti tj tp : Tok}
    (hPO : PassesOwn (model PySem.Challenge.rw_ij0118_01.row.prog w) A (trEnv w.params Lf) E) (hA : A.handled = none) (hdep : A.depth < 900) (F : Fr gg Lf s.heap m9) (N : News gg Lf s.heap ((99, t9) :: rest)) (X : (hd.heap_1 w.params).In gg) (T : Top topProg loose mean mg mb gg) (ok9 : T99 t9) (cd9 : CodeHd gg 103 99) (G : AllBare s.gens)
    (hall9 : ∀ p ∈ rest, p.1 ≠ 99) (hP : P.length ≤ 1000) (hx : 0 ≤ x ∧ x < e ∧ e < 1000) (p1 : m9 (Str.ofString "pat") = some (.str P tp)) (p2 : m9 (Str.ofString "i") = some (.int x ti)) (p3 : m9 (Str.ofString "j") = some (.int e tj))
    (i0 : ItemAt P x (Str.ofString "!")) (f1 : FindAt P (Str.ofString "-") (x + 2) e (-1)) (s3 : SliceAt P x e (Str.ofString "!-b")) :
    wpAny (model PySem.Challenge.rw_ij0118_01.row.prog w) A (execs (trDash w.params) (trEnv w.params Lf)) (DashPost s gg Lf m9 rest (Str.ofString "!\\-b")) E s := by
  iterate 2 (first | walk1 | (dsimp only; walk1) | skip)
  (repeat' (first | (k_unfold; (try dsimp only)) | ((with_reducible show wpAny _ _ (call (Value.builtin "str.find") _) _ _ _); (first | with_reducible ((k_here; (first | ((with_reducible refine' find_at ?q ?_); (case q => with_reducible assumption)) | k_dflt (refine find_at (by assumption) ?_)))) | ((k_here; (first | ((with_reducible refine' find_at ?q ?_); (case q => with_reducible assumption)) | k_dflt (refine find_at (by assumption) ?_)))))) | ((with_reducible show wpAny _ _ (subscriptTail _ (PySem.Expr.Slice _ _ _ _) (Value.str _ _) (Value.ref _)) _ _ _); (first | with_reducible ((k_here; (first | (k_dflt (refine' slice_at (by k_asm) (by k_asm) (by with_reducible assumption) (by with_reducible assumption) ?_)) | k_dflt (refine' slice_at (by k_asm) (by k_asm) (by assumption) (by assumption) ?_)); intro _ _ _ _ _; (try k_sweep))) | ((k_here; (first | (k_dflt (refine' slice_at (by k_asm) (by k_asm) (by with_reducible assumption) (by with_reducible assumption) ?_)) | k_dflt (refine' slice_at (by k_asm) (by k_asm) (by assumption) (by assumption) ?_)); intro _ _ _ _ _; (try k_sweep))))) | ((fail_if_success (with_reducible show wpAny _ _ (exec (Stmt.While _ _ _ _) _) _ _ _)); (fail_if_success (with_reducible show UnrEnd _ _ _ _ _ _ _)); (fail_if_success (with_reducible show _ = _ ∧ _)); walk1) | ((fail_if_success (with_reducible show wpAny _ _ (exec (Stmt.While _ _ _ _) _) _ _ _)); (fail_if_success (with_reducible show UnrEnd _ _ _ _ _ _ _)); (fail_if_success (with_reducible show _ = _ ∧ _)); dsimp only; walk1) | (leave1; walk_say "STEP leave1"; try dsimp only) | fail "no step"))
  refine whl_start 10 ?_
  (repeat' (first | (k_unfold; (try dsimp only)) | ((with_reducible show wpAny _ _ (call (Value.builtin "str.find") _) _ _ _); (first | with_reducible ((k_here; (first | ((with_reducible refine' find_at ?q ?_); (case q => with_reducible assumption)) | k_dflt (refine find_at (by assumption) ?_)))) | ((k_here; (first | ((with_reducible refine' find_at ?q ?_); (case q => with_reducible assumption)) | k_dflt (refine find_at (by assumption) ?_)))))) | ((with_reducible show wpAny _ _ (subscriptTail _ (PySem.Expr.Slice _ _ _ _) (Value.str _ _) (Value.ref _)) _ _ _); (first | with_reducible ((k_here; (first | (k_dflt (refine' slice_at (by k_asm) (by k_asm) (by with_reducible assumption) (by with_reducible assumption) ?_)) | k_dflt (refine' slice_at (by k_asm) (by k_asm) (by assumption) (by assumption) ?_)); intro _ _ _ _ _; (try k_sweep))) | ((k_here; (first | (k_dflt (refine' slice_at (by k_asm) (by k_asm) (by with_reducible assumption) (by with_reducible assumption) ?_)) | k_dflt (refine' slice_at (by k_asm) (by k_asm) (by assumption) (by assumption) ?_)); intro _ _ _ _ _; (try k_sweep))))) | ((fail_if_success (with_reducible show wpAny _ _ (exec (Stmt.While _ _ _ _) _) _ _ _)); (fail_if_success (with_reducible show UnrEnd _ _ _ _ _ _ _)); (fail_if_success (with_reducible show _ = _ ∧ _)); walk1) | ((fail_if_success (with_reducible show wpAny _ _ (exec (Stmt.While _ _ _ _) _) _ _ _)); (fail_if_success (with_reducible show UnrEnd _ _ _ _ _ _ _)); (fail_if_success (with_reducible show _ = _ ∧ _)); dsimp only; walk1) | (leave1; walk_say "STEP leave1"; try dsimp only) | fail "no step"))
  rename IsRange _ _ _ _ _ _ _ _ => rR
  rename Fr _ _ _ _ => lF
  rename News _ _ _ _ => lN
  with_unfolding_all refine krs_iter (n := 0) hA rR (by first | decide | rfl) (by first | decide | rfl) lF lN ?_
  clear lF lN
  intro iI l1
  try k_lt l1
  refine KrsRest.zero (fun hz tz Fz Nz => ?_)
  try dsimp only
  refine wpAny_mono (join_spec (vs := [_]) (ss := [Str.ofString "!-b"]) hA hdep (by k_asm) (news_swap Nz) X T ok9 cd9 G (by k_all) (.head _) (.cons _ _ .nil) (by decide) (by decide +kernel) (by decide +kernel) rfl) ?_ fun _ _ e => e
  rintro f s' ⟨rfl, m', t9', t, hos, F', N', ok', G', hst, hsame⟩
  refine ⟨rfl, m', t9', t, [_], hos, F', N', ?_, ok', G', ?_, ?_⟩
  · intro q hq r hr
    rw [List.mem_singleton.mp hq]
    exact allLt_all' (by k_slotget) r hr
  · rw [hst]
    congr 2
    decide +kernel
  · intro y h1 h2 h3 h4 h5
    rw [hsame y h1]
    simp only [h1, h2, h3, h4, h5, if_false]

end
-- T6
section
theorem fillT6 : PySem.Challenge.rw_ij0118_01 = PySem.Challenge.rw_ij0118_01 ∧ hd.heap_1 = hd.heap_1 := by
  k_fill
  exact ⟨rfl, rfl⟩


theorem dash4 {w : World} {A : Around} {E : Value → Shared → Prop} {s : Shared} {gg : Heap} {Lf : Addr} {m9 : Str → Option Value} {t9 : Obj} {rest : List (Addr × Obj)} {loose : List Str} {mean : ExcName → Option Value} {mg mb : Str → Option Value} {P : Str} {x e : Int} {ti tj tp : Tok}
    (hPO : PassesOwn (model PySem.Challenge.rw_ij0118_01.row.prog w) A (trEnv w.params Lf) E) (hA : A.handled = none) (hdep : A.depth < 900) (F : Fr gg Lf s.heap m9) (N : News gg Lf s.heap ((99, t9) :: rest)) (X : (hd.heap_1 w.params).In gg) (T : Top topProg loose mean mg mb gg) (ok9 : T99 t9) (cd9 : CodeHd gg 103 99) (G : AllBare s.gens)
    (hall9 : ∀ p ∈ rest, p.1 ≠ 99) (hP : P.length ≤ 1000) (hx : 0 ≤ x ∧ x < e ∧ e < 1000) (p1 : m9 (Str.ofString "pat") = some (.str P tp)) (p2 : m9 (Str.ofString "i") = some (.int x ti)) (p3 : m9 (Str.ofString "j") = some (.int e tj))
    (i0 : ItemAt P x (Str.ofString "c")) (f1 : FindAt P (Str.ofString "-") (x + 1) e (x + 1)) (s2 : SliceAt P x (x + 1) (Str.ofString "c")) (f2 : FindAt P (Str.ofString "-") (x + 1 + 3) e (-1)) (s3 : SliceAt P (x + 1 + 1) e (Str.ofString "")) :
    wpAny (model PySem.Challenge.rw_ij0118_01.row.prog w) A (execs (trDash w.params) (trEnv w.params Lf)) (DashPost s gg Lf m9 rest (Str.ofString "c\\-")) E s := by
  iterate 2 (first | walk1 | (dsimp only; walk1) | skip)
  (repeat' (first | (k_unfold; (try dsimp only)) | ((with_reducible show wpAny _ _ (call (Value.builtin "str.find") _) _ _ _); (first | with_reducible ((k_here; (first | ((with_reducible refine' find_at ?q ?_); (case q => with_reducible assumption)) | k_dflt (refine find_at (by assumption) ?_)))) | ((k_here; (first | ((with_reducible refine' find_at ?q ?_); (case q => with_reducible assumption)) | k_dflt (refine find_at (by assumption) ?_)))))) | ((with_reducible show wpAny _ _ (subscriptTail _ (PySem.Expr.Slice _ _ _ _) (Value.str _ _) (Value.ref _)) _ _ _); (first | with_reducible ((k_here; (first | (k_dflt (refine' slice_at (by k_asm) (by k_asm) (by with_reducible assumption) (by with_reducible assumption) ?_)) | k_dflt (refine' slice_at (by k_asm) (by k_asm) (by assumption) (by assumption) ?_)); intro _ _ _ _ _; (try k_sweep))) | ((k_here; (first | (k_dflt (refine' slice_at (by k_asm) (by k_asm) (by with_reducible assumption) (by with_reducible assumption) ?_)) | k_dflt (refine' slice_at (by k_asm) (by k_asm) (by assumption) (by assumption) ?_)); intro _ _ _ _ _; (try k_sweep))))) | ((fail_if_success (with_reducible show wpAny _ _ (exec (Stmt.While _ _ _ _) _) _ _ _)); (fail_if_success (with_reducible show UnrEnd _ _ _ _ _ _ _)); (fail_if_success (with_reducible show _ = _ ∧ _)); walk1) | ((fail_if_success (with_reducible show wpAny _ _ (exec (Stmt.While _ _ _ _) _) _ _ _)); (fail_if_success (with_reducible show UnrEnd _ _ _ _ _ _ _)); (fail_if_success (with_reducible show _ = _ ∧ _)); dsimp only; walk1) | (leave1; walk_say "STEP leave1"; try dsimp only) | fail "no step"))
  refine whl_start 10 ?_
  (repeat' (first | (k_unfold; (try dsimp only)) | ((with_reducible show wpAny _ _ (call (Value.builtin "str.find") _) _ _ _); (first | with_reducible ((k_here; (first | ((with_reducible refine' find_at ?q ?_); (case q => with_reducible assumption)) | k_dflt (refine find_at (by assumption) ?_)))) | ((k_here; (first | ((with_reducible refine' find_at ?q ?_); (case q => with_reducible assumption)) | k_dflt (refine find_at (by assumption) ?_)))))) | ((with_reducible show wpAny _ _ (subscriptTail _ (PySem.Expr.Slice _ _ _ _) (Value.str _ _) (Value.ref _)) _ _ _); (first | with_reducible ((k_here; (first | (k_dflt (refine' slice_at (by k_asm) (by k_asm) (by with_reducible assumption) (by with_reducible assumption) ?_)) | k_dflt (refine' slice_at (by k_asm) (by k_asm) (by assumption) (by assumption) ?_)); intro _ _ _ _ _; (try k_sweep))) | ((k_here; (first | (k_dflt (refine' slice_at (by k_asm) (by k_asm) (by with_reducible assumption) (by with_reducible assumption) ?_)) | k_dflt (refine' slice_at (by k_asm) (by k_asm) (by assumption) (by assumption) ?_)); intro _ _ _ _ _; (try k_sweep))))) | ((fail_if_success (with_reducible show wpAny _ _ (exec (Stmt.While _ _ _ _) _) _ _ _)); (fail_if_success (with_reducible show UnrEnd _ _ _ _ _ _ _)); (fail_if_success (with_reducible show _ = _ ∧ _)); walk1) | ((fail_if_success (with_reducible show wpAny _ _ (exec (Stmt.While _ _ _ _) _) _ _ _)); (fail_if_success (with_reducible show UnrEnd _ _ _ _ _ _ _)); (fail_if_success (with_reducible show _ = _ ∧ _)); dsimp only; walk1) | (leave1; walk_say "STEP leave1"; try dsimp only) | fail "no step"))
  rename IsRange _ _ _ _ _ _ _ _ => rR
  rename Fr _ _ _ _ => lF
  rename News _ _ _ _ => lN
  trace_state
  with_unfolding_all refine krs_iter (n := 0) hA rR (by first | decide | rfl) (by first | decide | rfl) lF lN ?_
  clear lF lN
  intro iI l1
  try k_lt l1
  refine KrsRest.zero (fun hz tz Fz Nz => ?_)
  try dsimp only
  refine wpAny_mono (join_spec (vs := [_]) (ss := [Str.ofString "c" ++ Str.ofString "-"]) hA hdep (by k_asm) (news_swap Nz) X T ok9 cd9 G (by k_all) (.head _) (.cons _ _ .nil) (by decide) (by decide +kernel) (by decide +kernel) rfl) ?_ fun _ _ e => e
  rintro f s' ⟨rfl, m', t9', t, hos, F', N', ok', G', hst, hsame⟩
  refine ⟨rfl, m', t9', t, [_], hos, F', N', ?_, ok', G', ?_, ?_⟩
  · intro q hq r hr
    rw [List.mem_singleton.mp hq]
    exact allLt_all' (by k_slotget) r hr
  · rw [hst]
    congr 2
    decide +kernel
  · intro y h1 h2 h3 h4 h5
    rw [hsame y h1]
    simp only [h1, h2, h3, h4, h5, if_false]

end
-- T7
section
theorem fillT7 : PySem.Challenge.rw_ij0118_01 = PySem.Challenge.rw_ij0118_01 ∧ hd.heap_1 = hd.heap_1 := by
  k_fill
  exact ⟨rfl, rfl⟩


theorem dash7 {w : World} {A : Around} {E : Value → Shared → Prop} {s : Shared} {gg : Heap} {Lf : Addr} {m9 : Str → Option Value} {t9 : Obj} {rest : List (Addr × Obj)} {loose : List Str} {mean : ExcName → Option Value} {mg mb : Str → Option Value} {P : Str} {x e : Int} {ti tj tp : Tok}
    (hPO : PassesOwn (model PySem.Challenge.rw_ij0118_01.row.prog w) A (trEnv w.params Lf) E) (hA : A.handled = none) (hdep : A.depth < 900) (F : Fr gg Lf s.heap m9) (N : News gg Lf s.heap ((99, t9) :: rest)) (X : (hd.heap_1 w.params).In gg) (T : Top topProg loose mean mg mb gg) (ok9 : T99 t9) (cd9 : CodeHd gg 103 99) (G : AllBare s.gens)
    (hall9 : ∀ p ∈ rest, p.1 ≠ 99) (hP : P.length ≤ 1000) (hx : 0 ≤ x ∧ x < e ∧ e < 1000) (p1 : m9 (Str.ofString "pat") = some (.str P tp)) (p2 : m9 (Str.ofString "i") = some (.int x ti)) (p3 : m9 (Str.ofString "j") = some (.int e tj))
    (i0 : ItemAt P x (Str.ofString "!")) (f1 : FindAt P (Str.ofString "-") (x + 2) e (x + 2)) (s2 : SliceAt P x (x + 2) (Str.ofString "!b")) (f2 : FindAt P (Str.ofString "-") (x + 2 + 3) e (-1)) (s3 : SliceAt P (x + 2 + 1) e (Str.ofString "a")) :
    wpAny (model PySem.Challenge.rw_ij0118_01.row.prog w) A (execs (trDash w.params) (trEnv w.params Lf)) (DashPost s gg Lf m9 rest (Str.ofString "!")) E s := by
  iterate 2 (first | walk1 | (dsimp only; walk1) | skip)
  (repeat' (first | (k_unfold; (try dsimp only)) | ((with_reducible show wpAny _ _ (call (Value.builtin "str.find") _) _ _ _); (first | with_reducible ((k_here; (first | ((with_reducible refine' find_at ?q ?_); (case q => with_reducible assumption)) | k_dflt (refine find_at (by assumption) ?_)))) | ((k_here; (first | ((with_reducible refine' find_at ?q ?_); (case q => with_reducible assumption)) | k_dflt (refine find_at (by assumption) ?_)))))) | ((with_reducible show wpAny _ _ (subscriptTail _ (PySem.Expr.Slice _ _ _ _) (Value.str _ _) (Value.ref _)) _ _ _); (first | with_reducible ((k_here; (first | (k_dflt (refine' slice_at (by k_asm) (by k_asm) (by with_reducible assumption) (by with_reducible assumption) ?_)) | k_dflt (refine' slice_at (by k_asm) (by k_asm) (by assumption) (by assumption) ?_)); intro _ _ _ _ _; (try k_sweep))) | ((k_here; (first | (k_dflt (refine' slice_at (by k_asm) (by k_asm) (by with_reducible assumption) (by with_reducible assumption) ?_)) | k_dflt (refine' slice_at (by k_asm) (by k_asm) (by assumption) (by assumption) ?_)); intro _ _ _ _ _; (try k_sweep))))) | ((fail_if_success (with_reducible show wpAny _ _ (exec (Stmt.While _ _ _ _) _) _ _ _)); (fail_if_success (with_reducible show UnrEnd _ _ _ _ _ _ _)); (fail_if_success (with_reducible show _ = _ ∧ _)); walk1) | ((fail_if_success (with_reducible show wpAny _ _ (exec (Stmt.While _ _ _ _) _) _ _ _)); (fail_if_success (with_reducible show UnrEnd _ _ _ _ _ _ _)); (fail_if_success (with_reducible show _ = _ ∧ _)); dsimp only; walk1) | (leave1; walk_say "STEP leave1"; try dsimp only) | fail "no step"))
  refine whl_start 10 ?_
  (repeat' (first | (k_unfold; (try dsimp only)) | ((with_reducible show wpAny _ _ (call (Value.builtin "str.find") _) _ _ _); (first | with_reducible ((k_here; (first | ((with_reducible refine' find_at ?q ?_); (case q => with_reducible assumption)) | k_dflt (refine find_at (by assumption) ?_)))) | ((k_here; (first | ((with_reducible refine' find_at ?q ?_); (case q => with_reducible assumption)) | k_dflt (refine find_at (by assumption) ?_)))))) | ((with_reducible show wpAny _ _ (subscriptTail _ (PySem.Expr.Slice _ _ _ _) (Value.str _ _) (Value.ref _)) _ _ _); (first | with_reducible ((k_here; (first | (k_dflt (refine' slice_at (by k_asm) (by k_asm) (by with_reducible assumption) (by with_reducible assumption) ?_)) | k_dflt (refine' slice_at (by k_asm) (by k_asm) (by assumption) (by assumption) ?_)); intro _ _ _ _ _; (try k_sweep))) | ((k_here; (first | (k_dflt (refine' slice_at (by k_asm) (by k_asm) (by with_reducible assumption) (by with_reducible assumption) ?_)) | k_dflt (refine' slice_at (by k_asm) (by k_asm) (by assumption) (by assumption) ?_)); intro _ _ _ _ _; (try k_sweep))))) | ((fail_if_success (with_reducible show wpAny _ _ (exec (Stmt.While _ _ _ _) _) _ _ _)); (fail_if_success (with_reducible show UnrEnd _ _ _ _ _ _ _)); (fail_if_success (with_reducible show _ = _ ∧ _)); walk1) | ((fail_if_success (with_reducible show wpAny _ _ (exec (Stmt.While _ _ _ _) _) _ _ _)); (fail_if_success (with_reducible show UnrEnd _ _ _ _ _ _ _)); (fail_if_success (with_reducible show _ = _ ∧ _)); dsimp only; walk1) | (leave1; walk_say "STEP leave1"; try dsimp only) | fail "no step"))
  rename IsRange _ _ _ _ _ _ _ _ => rR
  rename Fr _ _ _ _ => lF
  rename News _ _ _ _ => lN
  with_unfolding_all refine krs_iter (n := 1) hA rR (by first | decide | rfl) (by first | decide | rfl) lF lN ?_
  clear lF lN
  intro iI l1
  try k_lt l1
  (repeat' (first | (k_unfold; (try dsimp only)) | ((with_reducible show wpAny _ _ (call (Value.builtin "str.find") _) _ _ _); (first | with_reducible ((k_here; (first | ((with_reducible refine' find_at ?q ?_); (case q => with_reducible assumption)) | k_dflt (refine find_at (by assumption) ?_)))) | ((k_here; (first | ((with_reducible refine' find_at ?q ?_); (case q => with_reducible assumption)) | k_dflt (refine find_at (by assumption) ?_)))))) | ((with_reducible show wpAny _ _ (subscriptTail _ (PySem.Expr.Slice _ _ _ _) (Value.str _ _) (Value.ref _)) _ _ _); (first | with_reducible ((k_here; (first | (k_dflt (refine' slice_at (by k_asm) (by k_asm) (by with_reducible assumption) (by with_reducible assumption) ?_)) | k_dflt (refine' slice_at (by k_asm) (by k_asm) (by assumption) (by assumption) ?_)); intro _ _ _ _ _; (try k_sweep))) | ((k_here; (first | (k_dflt (refine' slice_at (by k_asm) (by k_asm) (by with_reducible assumption) (by with_reducible assumption) ?_)) | k_dflt (refine' slice_at (by k_asm) (by k_asm) (by assumption) (by assumption) ?_)); intro _ _ _ _ _; (try k_sweep))))) | ((fail_if_success (with_reducible show wpAny _ _ (exec (Stmt.While _ _ _ _) _) _ _ _)); (fail_if_success (with_reducible show UnrEnd _ _ _ _ _ _ _)); (fail_if_success (with_reducible show _ = _ ∧ _)); walk1) | ((fail_if_success (with_reducible show wpAny _ _ (exec (Stmt.While _ _ _ _) _) _ _ _)); (fail_if_success (with_reducible show UnrEnd _ _ _ _ _ _ _)); (fail_if_success (with_reducible show _ = _ ∧ _)); dsimp only; walk1) | (leave1; walk_say "STEP leave1"; try dsimp only) | fail "no step"))
  refine unrEnd_of (by k_asm) (by k_asm) ?off ?inv
  case off => k_all
  refine KrsRest.zero (fun hz tz Fz Nz => ?_)
  try dsimp only
  refine wpAny_mono (join_spec (vs := [_]) (ss := [Txt.slice (Str.ofString "!b") none (some (-1)) ++ Txt.slice (Str.ofString "a") (some 1) none]) hA hdep (by k_asm) (news_swap Nz) X T ok9 cd9 G (by k_all) (.head _) (.cons _ _ .nil) (by decide) (by decide +kernel) (by decide +kernel) rfl) ?_ fun _ _ e => e
  rintro f s' ⟨rfl, m', t9', t, hos, F', N', ok', G', hst, hsame⟩
  refine ⟨rfl, m', t9', t, [_], hos, F', N', ?_, ok', G', ?_, ?_⟩
  · intro q hq r hr
    rw [List.mem_singleton.mp hq]
    exact allLt_all' (by k_slotget) r hr
  · rw [hst]
    congr 2
    decide +kernel
  · intro y h1 h2 h3 h4 h5
    rw [hsame y h1]
    simp only [h1, h2, h3, h4, h5, if_false]

end
-- T9
section
theorem fillT9 : PySem.Challenge.rw_ij0118_01 = PySem.Challenge.rw_ij0118_01 ∧ hd.heap_1 = hd.heap_1 := by
  k_fill
  exact ⟨rfl, rfl⟩


theorem dash9 {w : World} {A : Around} {E : Value → Shared → Prop} {s : Shared} {gg : Heap} {Lf : Addr} {m9 : Str → Option Value} {t9 : Obj} {rest : List (Addr × Obj)} {loose : List Str} {mean : ExcName → Option Value} {mg mb : Str → Option Value} {P : Str} {x e : Int} {ti tj tp : Tok}
    (hPO : PassesOwn (model PySem.Challenge.rw_ij0118_01.row.prog w) A (trEnv w.params Lf) E) (hA : A.handled = none) (hdep : A.depth < 900) (F : Fr gg Lf s.heap m9) (N : News gg Lf s.heap ((99, t9) :: rest)) (X : (hd.heap_1 w.params).In gg) (T : Top topProg loose mean mg mb gg) (ok9 : T99 t9) (cd9 : CodeHd gg 103 99) (G : AllBare s.gens)
    (hall9 : ∀ p ∈ rest, p.1 ≠ 99) (hP : P.length ≤ 1000) (hx : 0 ≤ x ∧ x < e ∧ e < 1000) (p1 : m9 (Str.ofString "pat") = some (.str P tp)) (p2 : m9 (Str.ofString "i") = some (.int x ti)) (p3 : m9 (Str.ofString "j") = some (.int e tj))
    (i0 : ItemAt P x (Str.ofString "b")) (f1 : FindAt P (Str.ofString "-") (x + 1) e (x + 1)) (s2 : SliceAt P x (x + 1) (Str.ofString "b")) (f2 : FindAt P (Str.ofString "-") (x + 1 + 3) e (-1)) (s3 : SliceAt P (x + 1 + 1) e (Str.ofString "a")) :
    wpAny (model PySem.Challenge.rw_ij0118_01.row.prog w) A (execs (trDash w.params) (trEnv w.params Lf)) (DashPost s gg Lf m9 rest (Str.ofString "")) E s := by
  iterate 2 (first | walk1 | (dsimp only; walk1) | skip)
  (repeat' (first | (k_unfold; (try dsimp only)) | ((with_reducible show wpAny _ _ (call (Value.builtin "str.find") _) _ _ _); (first | with_reducible ((k_here; (first | ((with_reducible refine' find_at ?q ?_); (case q => with_reducible assumption)) | k_dflt (refine find_at (by assumption) ?_)))) | ((k_here; (first | ((with_reducible refine' find_at ?q ?_); (case q => with_reducible assumption)) | k_dflt (refine find_at (by assumption) ?_)))))) | ((with_reducible show wpAny _ _ (subscriptTail _ (PySem.Expr.Slice _ _ _ _) (Value.str _ _) (Value.ref _)) _ _ _); (first | with_reducible ((k_here; (first | (k_dflt (refine' slice_at (by k_asm) (by k_asm) (by with_reducible assumption) (by with_reducible assumption) ?_)) | k_dflt (refine' slice_at (by k_asm) (by k_asm) (by assumption) (by assumption) ?_)); intro _ _ _ _ _; (try k_sweep))) | ((k_here; (first | (k_dflt (refine' slice_at (by k_asm) (by k_asm) (by with_reducible assumption) (by with_reducible assumption) ?_)) | k_dflt (refine' slice_at (by k_asm) (by k_asm) (by assumption) (by assumption) ?_)); intro _ _ _ _ _; (try k_sweep))))) | ((fail_if_success (with_reducible show wpAny _ _ (exec (Stmt.While _ _ _ _) _) _ _ _)); (fail_if_success (with_reducible show UnrEnd _ _ _ _ _ _ _)); (fail_if_success (with_reducible show _ = _ ∧ _)); walk1) | ((fail_if_success (with_reducible show wpAny _ _ (exec (Stmt.While _ _ _ _) _) _ _ _)); (fail_if_success (with_reducible show UnrEnd _ _ _ _ _ _ _)); (fail_if_success (with_reducible show _ = _ ∧ _)); dsimp only; walk1) | (leave1; walk_say "STEP leave1"; try dsimp only) | fail "no step"))
  refine whl_start 10 ?_
  (repeat' (first | (k_unfold; (try dsimp only)) | ((with_reducible show wpAny _ _ (call (Value.builtin "str.find") _) _ _ _); (first | with_reducible ((k_here; (first | ((with_reducible refine' find_at ?q ?_); (case q => with_reducible assumption)) | k_dflt (refine find_at (by assumption) ?_)))) | ((k_here; (first | ((with_reducible refine' find_at ?q ?_); (case q => with_reducible assumption)) | k_dflt (refine find_at (by assumption) ?_)))))) | ((with_reducible show wpAny _ _ (subscriptTail _ (PySem.Expr.Slice _ _ _ _) (Value.str _ _) (Value.ref _)) _ _ _); (first | with_reducible ((k_here; (first | (k_dflt (refine' slice_at (by k_asm) (by k_asm) (by with_reducible assumption) (by with_reducible assumption) ?_)) | k_dflt (refine' slice_at (by k_asm) (by k_asm) (by assumption) (by assumption) ?_)); intro _ _ _ _ _; (try k_sweep))) | ((k_here; (first | (k_dflt (refine' slice_at (by k_asm) (by k_asm) (by with_reducible assumption) (by with_reducible assumption) ?_)) | k_dflt (refine' slice_at (by k_asm) (by k_asm) (by assumption) (by assumption) ?_)); intro _ _ _ _ _; (try k_sweep))))) | ((fail_if_success (with_reducible show wpAny _ _ (exec (Stmt.While _ _ _ _) _) _ _ _)); (fail_if_success (with_reducible show UnrEnd _ _ _ _ _ _ _)); (fail_if_success (with_reducible show _ = _ ∧ _)); walk1) | ((fail_if_success (with_reducible show wpAny _ _ (exec (Stmt.While _ _ _ _) _) _ _ _)); (fail_if_success (with_reducible show UnrEnd _ _ _ _ _ _ _)); (fail_if_success (with_reducible show _ = _ ∧ _)); dsimp only; walk1) | (leave1; walk_say "STEP leave1"; try dsimp only) | fail "no step"))
  rename IsRange _ _ _ _ _ _ _ _ => rR
  rename Fr _ _ _ _ => lF
  rename News _ _ _ _ => lN
  with_unfolding_all refine krs_iter (n := 1) hA rR (by first | decide | rfl) (by first | decide | rfl) lF lN ?_
  clear lF lN
  intro iI l1
  try k_lt l1
  (repeat' (first | (k_unfold; (try dsimp only)) | ((with_reducible show wpAny _ _ (call (Value.builtin "str.find") _) _ _ _); (first | with_reducible ((k_here; (first | ((with_reducible refine' find_at ?q ?_); (case q => with_reducible assumption)) | k_dflt (refine find_at (by assumption) ?_)))) | ((k_here; (first | ((with_reducible refine' find_at ?q ?_); (case q => with_reducible assumption)) | k_dflt (refine find_at (by assumption) ?_)))))) | ((with_reducible show wpAny _ _ (subscriptTail _ (PySem.Expr.Slice _ _ _ _) (Value.str _ _) (Value.ref _)) _ _ _); (first | with_reducible ((k_here; (first | (k_dflt (refine' slice_at (by k_asm) (by k_asm) (by with_reducible assumption) (by with_reducible assumption) ?_)) | k_dflt (refine' slice_at (by k_asm) (by k_asm) (by assumption) (by assumption) ?_)); intro _ _ _ _ _; (try k_sweep))) | ((k_here; (first | (k_dflt (refine' slice_at (by k_asm) (by k_asm) (by with_reducible assumption) (by with_reducible assumption) ?_)) | k_dflt (refine' slice_at (by k_asm) (by k_asm) (by assumption) (by assumption) ?_)); intro _ _ _ _ _; (try k_sweep))))) | ((fail_if_success (with_reducible show wpAny _ _ (exec (Stmt.While _ _ _ _) _) _ _ _)); (fail_if_success (with_reducible show UnrEnd _ _ _ _ _ _ _)); (fail_if_success (with_reducible show _ = _ ∧ _)); walk1) | ((fail_if_success (with_reducible show wpAny _ _ (exec (Stmt.While _ _ _ _) _) _ _ _)); (fail_if_success (with_reducible show UnrEnd _ _ _ _ _ _ _)); (fail_if_success (with_reducible show _ = _ ∧ _)); dsimp only; walk1) | (leave1; walk_say "STEP leave1"; try dsimp only) | fail "no step"))
  refine unrEnd_of (by k_asm) (by k_asm) ?off ?inv
  case off => k_all
  refine KrsRest.zero (fun hz tz Fz Nz => ?_)
  try dsimp only
  refine wpAny_mono (join_spec (vs := [_]) (ss := [Txt.slice (Str.ofString "b") none (some (-1)) ++ Txt.slice (Str.ofString "a") (some 1) none]) hA hdep (by k_asm) (news_swap Nz) X T ok9 cd9 G (by k_all) (.head _) (.cons _ _ .nil) (by decide) (by decide +kernel) (by decide +kernel) rfl) ?_ fun _ _ e => e
  rintro f s' ⟨rfl, m', t9', t, hos, F', N', ok', G', hst, hsame⟩
  refine ⟨rfl, m', t9', t, [_], hos, F', N', ?_, ok', G', ?_, ?_⟩
  · intro q hq r hr
    rw [List.mem_singleton.mp hq]
    exact allLt_all' (by k_slotget) r hr
  · rw [hst]
    congr 2
    decide +kernel
  · intro y h1 h2 h3 h4 h5
    rw [hsame y h1]
    simp only [h1, h2, h3, h4, h5, if_false]

end
-- T8
section
theorem fillT8 : PySem.Challenge.rw_ij0118_01 = PySem.Challenge.rw_ij0118_01 ∧ hd.heap_1 = hd.heap_1 := by
  k_fill
  exact ⟨rfl, rfl⟩


noncomputable def trBrHead (P : Params) : List Stmt := (trBr P).take 4
inductive HeadPost (s : Shared) (gg : Heap) (Lf : Addr) (m9 : Str → Option Value) (L : List (Addr × Obj)) (e : Int) (f : Flow) (s' : Shared) : Prop
  | mk : (f = .next) → ∀ h' tk m' tj, (s' = { s with heap := h', toks := tk }) → (Fr gg Lf h' m') → (News gg Lf h' L) → (m' (Str.ofString "j") = some (.int e tj)) → (∀ y, y ≠ Str.ofString "j" → m' y = m9 y) → HeadPost s gg Lf m9 L e f s'
inductive InvJ (s : Shared) (gg : Heap) (Lf : Addr) (m9 : Str → Option Value) (L : List (Addr × Obj)) (x e : Int) (n : Nat) (s' : Shared) : Prop
  | mk : ∀ h' tk m' tj jj, (s' = { s with heap := h', toks := tk }) → (Fr gg Lf h' m') → (News gg Lf h' L) → (m' (Str.ofString "j") = some (.int jj tj)) → ((∀ y, y ≠ Str.ofString "j" → m' y = m9 y)) → (x ≤ jj) → (jj ≤ e) → (n = (e - jj).toNat) → InvJ s gg Lf m9 L x e n s'
theorem brk_head {w : World} {A : Around} {E : Value → Shared → Prop} {s : Shared} {gg : Heap} {Lf : Addr} {m9 : Str → Option Value} {L : List (Addr × Obj)} {loose : List Str} {mean : ExcName → Option Value} {mg mb : Str → Option Value} {P c0 c1 : Str} {x e : Int} {ti tn tp : Tok}
    (hPO : PassesOwn (model PySem.Challenge.rw_ij0118_01.row.prog w) A (trEnv w.params Lf) E) (hA : A.handled = none) (hdep : A.depth < 900) (F : Fr gg Lf s.heap m9) (N : News gg Lf s.heap L) (X : (hd.heap_1 w.params).In gg) (T : Top topProg loose mean mg mb gg)
    (hP : P.length ≤ 1000) (hx : 0 ≤ x ∧ x < e ∧ e < 900) (hen : e < (P.length : Nat)) (p1 : m9 (Str.ofString "pat") = some (.str P tp)) (p2 : m9 (Str.ofString "i") = some (.int x ti)) (p3 : m9 (Str.ofString "n") = some (.int (P.length : Nat) tn))
    (i0 : ItemAt P x c0) (i1 : ItemAt P (x + 1) c1) (q0 : (c0 == Str.ofString "]") = false) (q1 : (c1 == Str.ofString "]") = false) (hxe : (c0 == Str.ofString "!") = true → x + 1 < e)
    (ie : ItemAt P e (Str.ofString "]")) (hin : ∀ jj, x ≤ jj → jj < e → ∃ c, ItemAt P jj c ∧ (c != Str.ofString "]") = true) :
    wpAny (model PySem.Challenge.rw_ij0118_01.row.prog w) A (execs (trBrHead w.params) (trEnv w.params Lf)) (HeadPost s gg Lf m9 L e) E s := by
  obtain ⟨b, hb⟩ : ∃ b, (c0 == Str.ofString "!") = b := ⟨_, rfl⟩
  iterate 2 (first | walk1 | (dsimp only; walk1) | skip)
  (repeat' (first | (k_unfold; (try dsimp only)) | ((fail_if_success (with_reducible show wpAny _ _ (exec (Stmt.While _ _ _ _) _) _ _ _)); (fail_if_success (with_reducible show UnrEnd _ _ _ _ _ _ _)); (fail_if_success (with_reducible show _ = _ ∧ _)); walk1) | ((fail_if_success (with_reducible show wpAny _ _ (exec (Stmt.While _ _ _ _) _) _ _ _)); (fail_if_success (with_reducible show UnrEnd _ _ _ _ _ _ _)); (fail_if_success (with_reducible show _ = _ ∧ _)); dsimp only; walk1) | (leave1; walk_say "STEP leave1"; try dsimp only) | fail "no step"))
  · have hx1 := hxe (by first | assumption | (rw [hb]; assumption))
    refine While_G (InvJ s gg Lf m9 L x e) (n₀ := (e - (x + 1)).toNat) ?_ ?_ hPO
    · refine ⟨_, _, _, _, x + 1, rfl, by k_asm, by k_asm, rfl, fun y h1 => ?_, by omega, by omega, rfl⟩
      simp only [h1, if_false]
    · rintro n s' ⟨h, tk1, m', tj, jj, rfl, F1, N1, hj, hm, hxj, hje, rfl⟩
      have e1 : m' (Str.ofString "pat") = some (.str P tp) := (hm _ (by decide)).trans p1
      have e3 : m' (Str.ofString "n") = some (.int (P.length : Nat) tn) := (hm _ (by decide)).trans p3
      rcases Int.lt_or_le jj e with hlt | hge
      · obtain ⟨c, hc, hcb⟩ := hin jj hxj hlt
        have hbr : jj < (P.length : Nat) := by omega
        (repeat' (first | (k_unfold; (try dsimp only)) | ((fail_if_success (with_reducible show wpAny _ _ (exec (Stmt.While _ _ _ _) _) _ _ _)); (fail_if_success (with_reducible show UnrEnd _ _ _ _ _ _ _)); (fail_if_success (with_reducible show _ = _ ∧ _)); walk1) | ((fail_if_success (with_reducible show wpAny _ _ (exec (Stmt.While _ _ _ _) _) _ _ _)); (fail_if_success (with_reducible show UnrEnd _ _ _ _ _ _ _)); (fail_if_success (with_reducible show _ = _ ∧ _)); dsimp only; walk1) | (leave1; walk_say "STEP leave1"; try dsimp only) | fail "no step"))
        refine ⟨rfl, (e - (jj + 1)).toNat, by omega, _, _, _, _, jj + 1, rfl, by k_asm, by k_asm, rfl, fun y h1 => ?_, by omega, by omega, rfl⟩
        simp only [h1, if_false]
        exact hm y h1
      · have hjeq : jj = e := by omega
        subst hjeq
        have hcb : ((Str.ofString "]") != Str.ofString "]") = false := by decide
        (repeat' (first | (k_unfold; (try dsimp only)) | ((fail_if_success (with_reducible show wpAny _ _ (exec (Stmt.While _ _ _ _) _) _ _ _)); (fail_if_success (with_reducible show UnrEnd _ _ _ _ _ _ _)); (fail_if_success (with_reducible show _ = _ ∧ _)); walk1) | ((fail_if_success (with_reducible show wpAny _ _ (exec (Stmt.While _ _ _ _) _) _ _ _)); (fail_if_success (with_reducible show UnrEnd _ _ _ _ _ _ _)); (fail_if_success (with_reducible show _ = _ ∧ _)); dsimp only; walk1) | (leave1; walk_say "STEP leave1"; try dsimp only) | fail "no step"))
        exact wpAny_execs_nil (show HeadPost s gg Lf m9 L jj .next _ from ⟨rfl, _, _, _, _, rfl, by k_asm, by k_asm, hj, hm⟩)
  · refine While_G (InvJ s gg Lf m9 L x e) (n₀ := (e - x).toNat) ?_ ?_ hPO
    · refine ⟨_, _, _, _, x, rfl, by k_asm, by k_asm, rfl, fun y h1 => ?_, by omega, by omega, rfl⟩
      simp only [h1, if_false]
    · rintro n s' ⟨h, tk1, m', tj, jj, rfl, F1, N1, hj, hm, hxj, hje, rfl⟩
      have e1 : m' (Str.ofString "pat") = some (.str P tp) := (hm _ (by decide)).trans p1
      have e3 : m' (Str.ofString "n") = some (.int (P.length : Nat) tn) := (hm _ (by decide)).trans p3
      rcases Int.lt_or_le jj e with hlt | hge
      · obtain ⟨c, hc, hcb⟩ := hin jj hxj hlt
        have hbr : jj < (P.length : Nat) := by omega
        (repeat' (first | (k_unfold; (try dsimp only)) | ((fail_if_success (with_reducible show wpAny _ _ (exec (Stmt.While _ _ _ _) _) _ _ _)); (fail_if_success (with_reducible show UnrEnd _ _ _ _ _ _ _)); (fail_if_success (with_reducible show _ = _ ∧ _)); walk1) | ((fail_if_success (with_reducible show wpAny _ _ (exec (Stmt.While _ _ _ _) _) _ _ _)); (fail_if_success (with_reducible show UnrEnd _ _ _ _ _ _ _)); (fail_if_success (with_reducible show _ = _ ∧ _)); dsimp only; walk1) | (leave1; walk_say "STEP leave1"; try dsimp only) | fail "no step"))
        refine ⟨rfl, (e - (jj + 1)).toNat, by omega, _, _, _, _, jj + 1, rfl, by k_asm, by k_asm, rfl, fun y h1 => ?_, by omega, by omega, rfl⟩
        simp only [h1, if_false]
        exact hm y h1
      · have hjeq : jj = e := by omega
        subst hjeq
        have hcb : ((Str.ofString "]") != Str.ofString "]") = false := by decide
        (repeat' (first | (k_unfold; (try dsimp only)) | ((fail_if_success (with_reducible show wpAny _ _ (exec (Stmt.While _ _ _ _) _) _ _ _)); (fail_if_success (with_reducible show UnrEnd _ _ _ _ _ _ _)); (fail_if_success (with_reducible show _ = _ ∧ _)); walk1) | ((fail_if_success (with_reducible show wpAny _ _ (exec (Stmt.While _ _ _ _) _) _ _ _)); (fail_if_success (with_reducible show UnrEnd _ _ _ _ _ _ _)); (fail_if_success (with_reducible show _ = _ ∧ _)); dsimp only; walk1) | (leave1; walk_say "STEP leave1"; try dsimp only) | fail "no step"))
        exact wpAny_execs_nil (show HeadPost s gg Lf m9 L jj .next _ from ⟨rfl, _, _, _, _, rfl, by k_asm, by k_asm, hj, hm⟩)

end
-- T10
section
theorem fillT10 : PySem.Challenge.rw_ij0118_01 = PySem.Challenge.rw_ij0118_01 ∧ hd.heap_1 = hd.heap_1 := by
  k_fill
  exact ⟨rfl, rfl⟩


noncomputable def trMid (P : Params) : List Stmt := (trIn P).take 2
theorem mid_dash {w : World} {A : Around} {E : Value → Shared → Prop} {s : Shared} {gg : Heap} {Lf : Addr} {m9 : Str → Option Value} {t9 : Obj} {rest : List (Addr × Obj)} {loose : List Str} {mean : ExcName → Option Value} {mg mb : Str → Option Value} {P S S' : Str} {x e : Int} {ti tj tp : Tok}
    (hPO : PassesOwn (model PySem.Challenge.rw_ij0118_01.row.prog w) A (trEnv w.params Lf) E) (hA : A.handled = none) (hdep : A.depth < 900) (F : Fr gg Lf s.heap m9) (N : News gg Lf s.heap ((99, t9) :: rest)) (X : (hd.heap_1 w.params).In gg) (T : Top topProg loose mean mg mb gg)
    (hP : P.length ≤ 1000) (hx : 0 ≤ x ∧ x < e ∧ e < 900) (p1 : m9 (Str.ofString "pat") = some (.str P tp)) (p2 : m9 (Str.ofString "i") = some (.int x ti)) (p3 : m9 (Str.ofString "j") = some (.int e tj))
    (hS : SliceAt P x e S) (hb : (!(!(Builtin.Str.occurrences S (Str.ofString "-") 0 S.length 1).isEmpty)) = false)
    (hD : ∀ (s1 : Shared) (m1 : Str → Option Value), s1.os = s.os → s1.gens = s.gens → Fr gg Lf s1.heap m1 → News gg Lf s1.heap ((99, t9) :: rest) → (∀ y, y ≠ Str.ofString "stuff" → m1 y = m9 y) → wpAny (model PySem.Challenge.rw_ij0118_01.row.prog w) A (execs (trDash w.params) (trEnv w.params Lf)) (DashPost s1 gg Lf m1 rest S') E s1) :
    wpAny (model PySem.Challenge.rw_ij0118_01.row.prog w) A (execs (trMid w.params) (trEnv w.params Lf)) (DashPost s gg Lf m9 rest S') E s := by
  iterate 2 (first | walk1 | (dsimp only; walk1) | skip)
  (repeat' (first | (k_unfold; (try dsimp only)) | ((with_reducible show wpAny _ _ (call (Value.builtin "str.replace") _) _ _ _); (first | with_reducible ((k_here; k_dflt (refine replace_none (by decide +kernel) ?_))) | ((k_here; k_dflt (refine replace_none (by decide +kernel) ?_))))) | ((with_reducible show wpAny _ _ (subscriptTail _ (PySem.Expr.Slice _ _ _ _) (Value.str _ _) (Value.ref _)) _ _ _); (first | with_reducible ((k_here; (first | (k_dflt (refine' slice_at (by k_asm) (by k_asm) (by with_reducible assumption) (by with_reducible assumption) ?_)) | k_dflt (refine' slice_at (by k_asm) (by k_asm) (by assumption) (by assumption) ?_)); intro _ _ _ _ _; (try k_sweep))) | ((k_here; (first | (k_dflt (refine' slice_at (by k_asm) (by k_asm) (by with_reducible assumption) (by with_reducible assumption) ?_)) | k_dflt (refine' slice_at (by k_asm) (by k_asm) (by assumption) (by assumption) ?_)); intro _ _ _ _ _; (try k_sweep))))) | ((with_reducible show wpAny _ _ (compareOp CmpOp.NotIn (Value.str _ _) (Value.str _ _)) _ _ _); (first | with_reducible ((k_here; k_dflt (first | refine notIn_lit (by assumption) ?_ | refine notIn_lit (b := false) (by decide +kernel) ?_ | refine notIn_lit (b := true) (by decide +kernel) ?_))) | ((k_here; k_dflt (first | refine notIn_lit (by assumption) ?_ | refine notIn_lit (b := false) (by decide +kernel) ?_ | refine notIn_lit (b := true) (by decide +kernel) ?_))))) | ((fail_if_success (with_reducible show wpAny _ _ (exec (Stmt.While _ _ _ _) _) _ _ _)); (fail_if_success (with_reducible show wpAny _ _ (execs (Stmt.Assign [PySem.Expr.Name (PySem.Str.ofString "chunks") _] _ _ :: _) _) _ _ _)); (fail_if_success (with_reducible show UnrEnd _ _ _ _ _ _ _)); (fail_if_success (with_reducible show _ = _ ∧ _)); walk1) | ((fail_if_success (with_reducible show wpAny _ _ (exec (Stmt.While _ _ _ _) _) _ _ _)); (fail_if_success (with_reducible show wpAny _ _ (execs (Stmt.Assign [PySem.Expr.Name (PySem.Str.ofString "chunks") _] _ _ :: _) _) _ _ _)); (fail_if_success (with_reducible show UnrEnd _ _ _ _ _ _ _)); (fail_if_success (with_reducible show _ = _ ∧ _)); dsimp only; walk1) | (leave1; walk_say "STEP leave1"; try dsimp only) | fail "no step"))
  rename_i h9 F9 N9
  refine wpAny_mono (hD _ _ rfl rfl F9 N9 (fun y h1 => ?_)) ?_ (fun _ _ e => e)
  · simp only [h1, if_false]
  · rintro f s' ⟨rfl, m', t9', t, junk, hos, F', N', hj, ok, G, hst, hsame⟩
    refine wpAny_execs_nil (show DashPost s gg Lf m9 rest S' .next _ from ⟨rfl, m', t9', t, junk, hos, F', N', hj, ok, G, hst, fun y h1 h2 h3 h4 h5 => ?_⟩)
    rw [hsame y h1 h2 h3 h4 h5]
    simp only [h1, if_false]
theorem mid_plain {w : World} {A : Around} {E : Value → Shared → Prop} {s : Shared} {gg : Heap} {Lf : Addr} {m9 : Str → Option Value} {t9 : Obj} {rest : List (Addr × Obj)} {loose : List Str} {mean : ExcName → Option Value} {mg mb : Str → Option Value} {P S : Str} {x e : Int} {ti tj tp : Tok}
    (hPO : PassesOwn (model PySem.Challenge.rw_ij0118_01.row.prog w) A (trEnv w.params Lf) E) (hA : A.handled = none) (hdep : A.depth < 900) (F : Fr gg Lf s.heap m9) (N : News gg Lf s.heap ((99, t9) :: rest)) (X : (hd.heap_1 w.params).In gg) (T : Top topProg loose mean mg mb gg) (ok9 : T99 t9) (G : AllBare s.gens)
    (hP : P.length ≤ 1000) (hx : 0 ≤ x ∧ x < e ∧ e < 900) (p1 : m9 (Str.ofString "pat") = some (.str P tp)) (p2 : m9 (Str.ofString "i") = some (.int x ti)) (p3 : m9 (Str.ofString "j") = some (.int e tj))
    (hS : SliceAt P x e S) (hc : S ∈ [Str.ofString "ab", Str.ofString "!a"]) :
    wpAny (model PySem.Challenge.rw_ij0118_01.row.prog w) A (execs (trMid w.params) (trEnv w.params Lf)) (DashPost s gg Lf m9 rest S) E s := by
  simp only [List.mem_cons, List.not_mem_nil, or_false] at hc
  rcases hc with rfl | rfl
  all_goals iterate 2 (first | walk1 | (dsimp only; walk1) | skip)
  all_goals (repeat' (first | (k_unfold; (try dsimp only)) | ((with_reducible show wpAny _ _ (call (Value.builtin "str.replace") _) _ _ _); (first | with_reducible ((k_here; k_dflt (refine replace_none (by decide +kernel) ?_))) | ((k_here; k_dflt (refine replace_none (by decide +kernel) ?_))))) | ((with_reducible show wpAny _ _ (subscriptTail _ (PySem.Expr.Slice _ _ _ _) (Value.str _ _) (Value.ref _)) _ _ _); (first | with_reducible ((k_here; (first | (k_dflt (refine' slice_at (by k_asm) (by k_asm) (by with_reducible assumption) (by with_reducible assumption) ?_)) | k_dflt (refine' slice_at (by k_asm) (by k_asm) (by assumption) (by assumption) ?_)); intro _ _ _ _ _; (try k_sweep))) | ((k_here; (first | (k_dflt (refine' slice_at (by k_asm) (by k_asm) (by with_reducible assumption) (by with_reducible assumption) ?_)) | k_dflt (refine' slice_at (by k_asm) (by k_asm) (by assumption) (by assumption) ?_)); intro _ _ _ _ _; (try k_sweep))))) | ((with_reducible show wpAny _ _ (compareOp CmpOp.NotIn (Value.str _ _) (Value.str _ _)) _ _ _); (first | with_reducible ((k_here; k_dflt (first | refine notIn_lit (by assumption) ?_ | refine notIn_lit (b := false) (by decide +kernel) ?_ | refine notIn_lit (b := true) (by decide +kernel) ?_))) | ((k_here; k_dflt (first | refine notIn_lit (by assumption) ?_ | refine notIn_lit (b := false) (by decide +kernel) ?_ | refine notIn_lit (b := true) (by decide +kernel) ?_))))) | ((fail_if_success (with_reducible show wpAny _ _ (exec (Stmt.While _ _ _ _) _) _ _ _)); (fail_if_success (with_reducible show wpAny _ _ (execs (Stmt.Assign [PySem.Expr.Name (PySem.Str.ofString "chunks") _] _ _ :: _) _) _ _ _)); (fail_if_success (with_reducible show UnrEnd _ _ _ _ _ _ _)); (fail_if_success (with_reducible show _ = _ ∧ _)); walk1) | ((fail_if_success (with_reducible show wpAny _ _ (exec (Stmt.While _ _ _ _) _) _ _ _)); (fail_if_success (with_reducible show wpAny _ _ (execs (Stmt.Assign [PySem.Expr.Name (PySem.Str.ofString "chunks") _] _ _ :: _) _) _ _ _)); (fail_if_success (with_reducible show UnrEnd _ _ _ _ _ _ _)); (fail_if_success (with_reducible show _ = _ ∧ _)); dsimp only; walk1) | (leave1; walk_say "STEP leave1"; try dsimp only) | fail "no step"))
  all_goals refine wpAny_execs_nil (show DashPost s gg Lf m9 rest _ .next _ from ⟨rfl, _, t9, _, [], rfl, by k_asm, (show News gg Lf _ ((99, t9) :: rest) from by k_asm), fun q hq => absurd hq (List.not_mem_nil), ok9, G, rfl, fun y h1 h2 h3 h4 h5 => ?_⟩)
  all_goals simp only [h1, if_false]

end
-- T11
section
theorem fillT11 : PySem.Challenge.rw_ij0118_01 = PySem.Challenge.rw_ij0118_01 ∧ hd.heap_1 = hd.heap_1 := by
  k_fill
  exact ⟨rfl, rfl⟩


inductive BrkPost (s : Shared) (gg : Heap) (Lf lr qa : Addr) (m9 : Str → Option Value) (rv : List Value) (e0 : Nat) (rest : List (Addr × Obj)) (p : Str) (e : Int) (f : Flow) (s' : Shared) : Prop
  | mk : (f = .next) → ∀ m' t9' t ti junk, (s'.os = s.os) → (Fr gg Lf s'.heap m') → (News gg Lf s'.heap ((99, t9') :: (lr, listOf (rv ++ [Value.str p t]).toArray (e0 + 1)) :: (qa, bndO lr) :: (junk ++ rest))) → (T99 t9') → (AllBare s'.gens) → ((∀ q ∈ junk, @LT.lt Nat _ qa q.1)) → (m' (Str.ofString "i") = some (.int (e + 1) ti)) → (∀ y, y ≠ Str.ofString "stuff" → y ≠ Str.ofString "chunks" → y ≠ Str.ofString "chunk" → y ≠ Str.ofString "k" → y ≠ Str.ofString "i" → y ≠ Str.ofString "j" → m' y = m9 y) → BrkPost s gg Lf lr qa m9 rv e0 rest p e f s'
theorem brk_spec {w : World} {A : Around} {E : Value → Shared → Prop} {s : Shared} {gg : Heap} {Lf lr qa : Addr} {m9 : Str → Option Value} {t9 : Obj} {rv : List Value} {e0 : Nat} {rest : List (Addr × Obj)} {loose : List Str} {mean : ExcName → Option Value} {mg mb : Str → Option Value} {P S' p c0 c1 : Str} {x e : Int} {ti tn tp : Tok}
    (hPO : PassesOwn (model PySem.Challenge.rw_ij0118_01.row.prog w) A (trEnv w.params Lf) E) (hA : A.handled = none) (hdep : A.depth < 900) (F : Fr gg Lf s.heap m9) (N : News gg Lf s.heap ((99, t9) :: (lr, listOf rv.toArray e0) :: (qa, bndO lr) :: rest)) (X : (hd.heap_1 w.params).In gg) (T : Top topProg loose mean mg mb gg) (cd9 : CodeHd gg 103 99)
    (hall : ∀ p ∈ rest, p.1 ≠ lr) (hall9 : ∀ p ∈ rest, p.1 ≠ 99) (hlq : @LT.lt Nat _ lr qa) (h99 : @LT.lt Nat _ 99 lr) (hrv : rv.toArray.size ≤ sizeLine)
    (hP : P.length ≤ 1000) (hx : 0 ≤ x ∧ x < e ∧ e < 900) (hen : e < (P.length : Nat)) (p1 : m9 (Str.ofString "pat") = some (.str P tp)) (p2 : m9 (Str.ofString "i") = some (.int x ti)) (p3 : m9 (Str.ofString "n") = some (.int (P.length : Nat) tn)) (p4 : m9 (Str.ofString "add") = some (.ref qa))
    (i0 : ItemAt P x c0) (i1 : ItemAt P (x + 1) c1) (q0 : (c0 == Str.ofString "]") = false) (q1 : (c1 == Str.ofString "]") = false) (hxe : (c0 == Str.ofString "!") = true → x + 1 < e)
    (ie : ItemAt P e (Str.ofString "]")) (hin : ∀ jj, x ≤ jj → jj < e → ∃ c, ItemAt P jj c ∧ (c != Str.ofString "]") = true)
    (hM : ∀ (s1 : Shared) (m1 : Str → Option Value) (tj : Tok), s1.os = s.os → s1.gens = s.gens → Fr gg Lf s1.heap m1 → News gg Lf s1.heap ((99, t9) :: (lr, listOf rv.toArray e0) :: (qa, bndO lr) :: rest) → m1 (Str.ofString "j") = some (.int e tj) → (∀ y, y ≠ Str.ofString "j" → m1 y = m9 y) →
      wpAny (model PySem.Challenge.rw_ij0118_01.row.prog w) A (execs (trMid w.params) (trEnv w.params Lf)) (DashPost s1 gg Lf m1 ((lr, listOf rv.toArray e0) :: (qa, bndO lr) :: rest) S') E s1)
    (hS : (S', p) ∈ [(Str.ofString "ab", Str.ofString "[ab]"), (Str.ofString "!a", Str.ofString "[^a]"), (Str.ofString "a-c", Str.ofString "[a-c]"), (Str.ofString "c\\-", Str.ofString "[c\\-]"), (Str.ofString "!\\-b", Str.ofString "[^\\-b]"), (Str.ofString "!", Str.ofString "."), (Str.ofString "!a-b", Str.ofString "[^a-b]"), (Str.ofString "", Str.ofString "(?!)")]) :
    wpAny (model PySem.Challenge.rw_ij0118_01.row.prog w) A (execs (trBr w.params) (trEnv w.params Lf)) (BrkPost s gg Lf lr qa m9 rv e0 rest p e) E s := by
  refine execs_app 4 ?_
  refine wpAny_mono (show wpAny _ A (execs (trBrHead w.params) _) _ E s from brk_head hPO hA hdep F N X T hP hx hen p1 p2 p3 i0 i1 q0 q1 hxe ie hin) ?_ (fun _ _ e => e)
  rintro f s1 ⟨rfl, h1, tk1, m1, tj, rfl, F1, N1, hj, hm⟩
  refine ⟨rfl, ?_⟩
  have e3 : m1 (Str.ofString "n") = some (.int (P.length : Nat) tn) := (hm _ (by decide)).trans p3
  iterate 2 (first | walk1 | (dsimp only; walk1) | skip)
  (repeat' (first | (k_unfold; (try dsimp only)) | ((fail_if_success (with_reducible show wpAny _ _ (exec (Stmt.While _ _ _ _) _) _ _ _)); (fail_if_success (with_reducible show wpAny _ _ (execs (Stmt.Assign [PySem.Expr.Name (PySem.Str.ofString "stuff") _] _ _ :: _) _) _ _ _)); (fail_if_success (with_reducible show UnrEnd _ _ _ _ _ _ _)); (fail_if_success (with_reducible show _ = _ ∧ _)); walk1) | ((fail_if_success (with_reducible show wpAny _ _ (exec (Stmt.While _ _ _ _) _) _ _ _)); (fail_if_success (with_reducible show wpAny _ _ (execs (Stmt.Assign [PySem.Expr.Name (PySem.Str.ofString "stuff") _] _ _ :: _) _) _ _ _)); (fail_if_success (with_reducible show UnrEnd _ _ _ _ _ _ _)); (fail_if_success (with_reducible show _ = _ ∧ _)); dsimp only; walk1) | (leave1; walk_say "STEP leave1"; try dsimp only) | fail "no step"))
  show wpAny _ _ (execs (trIn w.params) (trEnv w.params Lf)) _ _ _
  refine execs_app 2 ?_
  refine wpAny_mono (show wpAny _ A (execs (trMid w.params) _) _ E _ from hM _ m1 tj rfl rfl (by k_asm) (by k_asm) hj hm) ?_ (fun _ _ e => e)
  rintro f s2 ⟨rfl, m2, t92, t2, junk, hos, F2, N2, hjk, ok2, G2, hst, hsame⟩
  refine ⟨rfl, ?_⟩
  have hjq : ∀ q ∈ junk, @LT.lt Nat _ qa q.1 := fun q hq => hjk q hq (qa, bndO lr) (.tail _ (.head _))
  have N3 : News gg Lf s2.heap ((99, t92) :: (lr, listOf rv.toArray e0) :: (qa, bndO lr) :: (junk ++ rest)) := news_perm N2 fun q hq => by
    simp only [List.mem_cons, List.mem_append] at hq ⊢
    grind
  have a1 : ∀ p ∈ junk ++ rest, p.1 ≠ lr := by
    intro q hq
    rcases List.mem_append.mp hq with hq | hq
    · exact Nat.ne_of_gt (Nat.lt_trans hlq (hjq q hq))
    · exact hall q hq
  have a2 : ∀ p ∈ junk ++ rest, p.1 ≠ 99 := by
    intro q hq
    rcases List.mem_append.mp hq with hq | hq
    · exact Nat.ne_of_gt (Nat.lt_trans h99 (Nat.lt_trans hlq (hjq q hq)))
    · exact hall9 q hq
  have ej : m2 (Str.ofString "j") = some (.int e tj) := (hsame _ (by decide) (by decide) (by decide) (by decide) (by decide)).trans hj
  have ea : m2 (Str.ofString "add") = some (.ref qa) := (hsame _ (by decide) (by decide) (by decide) (by decide) (by decide)).trans ((hm _ (by decide)).trans p4)
  refine wpAny_mono (show wpAny _ A (execs (trTail w.params) _) _ E _ from tail_spec hA F2 N3 X T ok2 cd9 a1 a2 hlq h99 hrv hst ej ea hS) ?_ (fun _ _ e => e)
  rintro f s3 ⟨rfl, h4, tk4, m4, t94, t4, ti4, junk4, rfl, F4, N4, ok4, hj4, hi4, hm4⟩
  refine wpAny_execs_nil (show BrkPost s gg Lf lr qa m9 rv e0 rest p e .next _ from ⟨rfl, m4, t94, t4, ti4, junk4 ++ junk, hos, F4, ?_, ok4, G2, ?_, hi4, fun y g1 g2 g3 g4 g5 g6 => ?_⟩)
  · rw [List.append_assoc]; exact N4
  · intro q hq
    rcases List.mem_append.mp hq with hq | hq
    · exact hj4 q hq
    · exact hjq q hq
  · rw [hm4 y g1 g5, hsame y g1 g2 g3 g4 g5, hm y g6]

end
-- T12
section
theorem brk1 {w : World} {A : Around} {E : Value → Shared → Prop} {s : Shared} {gg : Heap} {Lf lr qa : Addr} {m9 : Str → Option Value} {t9 : Obj} {rv : List Value} {e0 : Nat} {rest : List (Addr × Obj)} {loose : List Str} {mean : ExcName → Option Value} {mg mb : Str → Option Value} {ts0 : List Str} {k : Nat} {ti tn tp : Tok}
    (hPO : PassesOwn (model PySem.Challenge.rw_ij0118_01.row.prog w) A (trEnv w.params Lf) E) (hA : A.handled = none) (hdep : A.depth < 900) (F : Fr gg Lf s.heap m9) (N : News gg Lf s.heap ((99, t9) :: (lr, listOf rv.toArray e0) :: (qa, bndO lr) :: rest)) (X : (hd.heap_1 w.params).In gg) (T : Top topProg loose mean mg mb gg) (cd9 : CodeHd gg 103 99)
    (hall : ∀ p ∈ rest, p.1 ≠ lr) (hall9 : ∀ p ∈ rest, p.1 ≠ 99) (hlq : @LT.lt Nat _ lr qa) (h99 : @LT.lt Nat _ 99 lr) (hrv : rv.toArray.size ≤ sizeLine)
    (ok9 : T99 t9) (G : AllBare s.gens) (ht : ts0[k]? = some (TX 1)) (hP : (catS ts0).length ≤ 1000) (hP9 : (catS ts0).length < 900) (p1 : m9 (Str.ofString "pat") = some (.str (catS ts0) tp)) (p2 : m9 (Str.ofString "i") = some (.int (offs ts0 k + 1) ti)) (p3 : m9 (Str.ofString "n") = some (.int ((catS ts0).length : Nat) tn)) (p4 : m9 (Str.ofString "add") = some (.ref qa)) :
    wpAny (model PySem.Challenge.rw_ij0118_01.row.prog w) A (execs (trBr w.params) (trEnv w.params Lf)) (BrkPost s gg Lf lr qa m9 rv e0 rest (PT 1) (offs ts0 k + 3)) E s := by
  obtain ⟨o1, o2⟩ := offs_le ht
  have hl : (TX 1).length = 4 := by decide +kernel
  have hit := fun j hj => item_cat ht (j := j) hj
  refine brk_spec (S' := Str.ofString "ab") (p := PT 1) (c0 := Str.ofString "a") (c1 := Str.ofString "b") (x := offs ts0 k + 1) (e := offs ts0 k + 3) hPO hA hdep F N X T cd9 hall hall9 hlq h99 hrv hP (rg9 o2 o1 hP9 (by decide) (by decide) (by decide +kernel)) (lt_in o1 (by decide +kernel)) p1 p2 p3 p4
    ((hit 1 (by decide +kernel)).to (by first | exact rfl | omega) (by decide +kernel)) ((hit 2 (by decide +kernel)).to (by first | exact rfl | omega) (by decide +kernel)) (by decide) (by decide) (fun h => absurd h (by decide)) ((hit 3 (by decide +kernel)).to (by first | exact rfl | omega) (by decide +kernel)) (fun jj h1 h2 => ?_) (fun s1 m1 tj hos hg F1 N1 hj hm => ?_) (by decide +kernel)
  · rcases (in2 h1 h2) with rfl | rfl
    · exact ⟨_, (hit 1 (by decide +kernel)).to (by first | exact rfl | omega) rfl, by decide +kernel⟩
    · exact ⟨_, (hit 2 (by decide +kernel)).to (by first | exact rfl | omega) rfl, by decide +kernel⟩
  · exact mid_plain hPO hA hdep F1 N1 X T ok9 (by rw [hg]; exact G) hP (rg9 o2 o1 hP9 (by decide) (by decide) (by decide +kernel)) ((hm _ (by decide)).trans p1) ((hm _ (by decide)).trans p2) hj ((slice_cat ht (i := 1) (j := 3) (by decide) (by decide +kernel)).to (by first | exact rfl | omega) (by first | exact rfl | omega) (by decide +kernel)) (.head _)

end
-- T13
section
theorem brk2 {w : World} {A : Around} {E : Value → Shared → Prop} {s : Shared} {gg : Heap} {Lf lr qa : Addr} {m9 : Str → Option Value} {t9 : Obj} {rv : List Value} {e0 : Nat} {rest : List (Addr × Obj)} {loose : List Str} {mean : ExcName → Option Value} {mg mb : Str → Option Value} {ts0 : List Str} {k : Nat} {ti tn tp : Tok}
    (hPO : PassesOwn (model PySem.Challenge.rw_ij0118_01.row.prog w) A (trEnv w.params Lf) E) (hA : A.handled = none) (hdep : A.depth < 900) (F : Fr gg Lf s.heap m9) (N : News gg Lf s.heap ((99, t9) :: (lr, listOf rv.toArray e0) :: (qa, bndO lr) :: rest)) (X : (hd.heap_1 w.params).In gg) (T : Top topProg loose mean mg mb gg) (cd9 : CodeHd gg 103 99)
    (hall : ∀ p ∈ rest, p.1 ≠ lr) (hall9 : ∀ p ∈ rest, p.1 ≠ 99) (hlq : @LT.lt Nat _ lr qa) (h99 : @LT.lt Nat _ 99 lr) (hrv : rv.toArray.size ≤ sizeLine)
    (ok9 : T99 t9) (G : AllBare s.gens) (ht : ts0[k]? = some (TX 2)) (hP : (catS ts0).length ≤ 1000) (hP9 : (catS ts0).length < 900) (p1 : m9 (Str.ofString "pat") = some (.str (catS ts0) tp)) (p2 : m9 (Str.ofString "i") = some (.int (offs ts0 k + 1) ti)) (p3 : m9 (Str.ofString "n") = some (.int ((catS ts0).length : Nat) tn)) (p4 : m9 (Str.ofString "add") = some (.ref qa)) :
    wpAny (model PySem.Challenge.rw_ij0118_01.row.prog w) A (execs (trBr w.params) (trEnv w.params Lf)) (BrkPost s gg Lf lr qa m9 rv e0 rest (PT 2) (offs ts0 k + 3)) E s := by
  obtain ⟨o1, o2⟩ := offs_le ht
  have hl : (TX 2).length = 4 := by decide +kernel
  have hit := fun j hj => item_cat ht (j := j) hj
  refine brk_spec (S' := Str.ofString "!a") (p := PT 2) (c0 := Str.ofString "!") (c1 := Str.ofString "a") (x := offs ts0 k + 1) (e := offs ts0 k + 3) hPO hA hdep F N X T cd9 hall hall9 hlq h99 hrv hP (rg9 o2 o1 hP9 (by decide) (by decide) (by decide +kernel)) (lt_in o1 (by decide +kernel)) p1 p2 p3 p4
    ((hit 1 (by decide +kernel)).to (by first | exact rfl | omega) (by decide +kernel)) ((hit 2 (by decide +kernel)).to (by first | exact rfl | omega) (by decide +kernel)) (by decide) (by decide) (fun _ => by omega) ((hit 3 (by decide +kernel)).to (by first | exact rfl | omega) (by decide +kernel)) (fun jj h1 h2 => ?_) (fun s1 m1 tj hos hg F1 N1 hj hm => ?_) (by decide +kernel)
  · rcases (in2 h1 h2) with rfl | rfl
    · exact ⟨_, (hit 1 (by decide +kernel)).to (by first | exact rfl | omega) rfl, by decide +kernel⟩
    · exact ⟨_, (hit 2 (by decide +kernel)).to (by first | exact rfl | omega) rfl, by decide +kernel⟩
  · exact mid_plain hPO hA hdep F1 N1 X T ok9 (by rw [hg]; exact G) hP (rg9 o2 o1 hP9 (by decide) (by decide) (by decide +kernel)) ((hm _ (by decide)).trans p1) ((hm _ (by decide)).trans p2) hj ((slice_cat ht (i := 1) (j := 3) (by decide) (by decide +kernel)).to (by first | exact rfl | omega) (by first | exact rfl | omega) (by decide +kernel)) (.tail _ (.head _))

end
-- T14
section
theorem brk3 {w : World} {A : Around} {E : Value → Shared → Prop} {s : Shared} {gg : Heap} {Lf lr qa : Addr} {m9 : Str → Option Value} {t9 : Obj} {rv : List Value} {e0 : Nat} {rest : List (Addr × Obj)} {loose : List Str} {mean : ExcName → Option Value} {mg mb : Str → Option Value} {ts0 : List Str} {k : Nat} {ti tn tp : Tok}
    (hPO : PassesOwn (model PySem.Challenge.rw_ij0118_01.row.prog w) A (trEnv w.params Lf) E) (hA : A.handled = none) (hdep : A.depth < 900) (F : Fr gg Lf s.heap m9) (N : News gg Lf s.heap ((99, t9) :: (lr, listOf rv.toArray e0) :: (qa, bndO lr) :: rest)) (X : (hd.heap_1 w.params).In gg) (T : Top topProg loose mean mg mb gg) (cd9 : CodeHd gg 103 99)
    (hall : ∀ p ∈ rest, p.1 ≠ lr) (hall9 : ∀ p ∈ rest, p.1 ≠ 99) (hlq : @LT.lt Nat _ lr qa) (h99 : @LT.lt Nat _ 99 lr) (hrv : rv.toArray.size ≤ sizeLine)
    (ok9 : T99 t9) (G : AllBare s.gens) (ht : ts0[k]? = some (TX 3)) (hP : (catS ts0).length ≤ 1000) (hP9 : (catS ts0).length < 900) (p1 : m9 (Str.ofString "pat") = some (.str (catS ts0) tp)) (p2 : m9 (Str.ofString "i") = some (.int (offs ts0 k + 1) ti)) (p3 : m9 (Str.ofString "n") = some (.int ((catS ts0).length : Nat) tn)) (p4 : m9 (Str.ofString "add") = some (.ref qa)) :
    wpAny (model PySem.Challenge.rw_ij0118_01.row.prog w) A (execs (trBr w.params) (trEnv w.params Lf)) (BrkPost s gg Lf lr qa m9 rv e0 rest (PT 3) (offs ts0 k + 4)) E s := by
  obtain ⟨o1, o2⟩ := offs_le ht
  have hl : (TX 3).length = 5 := by decide +kernel
  have hit := fun j hj => item_cat ht (j := j) hj
  refine brk_spec (S' := Str.ofString "a-c") (p := PT 3) (c0 := Str.ofString "a") (c1 := Str.ofString "-") (x := offs ts0 k + 1) (e := offs ts0 k + 4) hPO hA hdep F N X T cd9 hall hall9 hlq h99 hrv hP (rg9 o2 o1 hP9 (by decide) (by decide) (by decide +kernel)) (lt_in o1 (by decide +kernel)) p1 p2 p3 p4
    ((hit 1 (by decide +kernel)).to (by first | exact rfl | omega) (by decide +kernel)) ((hit 2 (by decide +kernel)).to (by first | exact rfl | omega) (by decide +kernel)) (by decide) (by decide) (fun h => absurd h (by decide)) ((hit 4 (by decide +kernel)).to (by first | exact rfl | omega) (by decide +kernel)) (fun jj h1 h2 => ?_) (fun s1 m1 tj hos hg F1 N1 hj hm => ?_) (by decide +kernel)
  · rcases (in3 h1 h2) with rfl | rfl | rfl
    · exact ⟨_, (hit 1 (by decide +kernel)).to (by first | exact rfl | omega) rfl, by decide +kernel⟩
    · exact ⟨_, (hit 2 (by decide +kernel)).to (by first | exact rfl | omega) rfl, by decide +kernel⟩
    · exact ⟨_, (hit 3 (by decide +kernel)).to (by first | exact rfl | omega) rfl, by decide +kernel⟩
  · refine mid_dash (S := Str.ofString "a-c") hPO hA hdep F1 N1 X T hP (rg9 o2 o1 hP9 (by decide) (by decide) (by decide +kernel)) ((hm _ (by decide)).trans p1) ((hm _ (by decide)).trans p2) hj ((slice_cat ht (i := 1) (j := 4) (by decide) (by decide +kernel)).to (by first | exact rfl | omega) (by first | exact rfl | omega) (by decide +kernel)) (by decide +kernel) (fun s2 m2 hos2 hg2 F2 N2 hm2 => ?_)
    refine dash3 hPO hA hdep F2 N2 X T ok9 cd9 (by rw [hg2, hg]; exact G) ?_ hP (rg o2 o1 hP9 (by decide) (by decide) (by decide +kernel)) ((hm2 _ (by decide)).trans ((hm _ (by decide)).trans p1)) ((hm2 _ (by decide)).trans ((hm _ (by decide)).trans p2)) ((hm2 _ (by decide)).trans hj)
      ((hit 1 (by decide +kernel)).to (by first | exact rfl | omega) (by decide +kernel)) ((find_cat ht (i := 2) (j := 4) (by decide +kernel) (Str.ofString "-")).to (by first | exact rfl | omega) (by first | exact rfl | omega) (by rw [show Builtin.Str.occurrences (TX 3) (Str.ofString "-") 2 4 1 = [2] by decide +kernel]; show _ + ((2 : Nat) : Int) = _; first | exact rfl | omega) rfl)
      ((slice_cat ht (i := 1) (j := 2) (by decide) (by decide +kernel)).to (by first | exact rfl | omega) (by first | exact rfl | omega) (by decide +kernel)) ((find_cat ht (i := 5) (j := 4) (by decide +kernel) (Str.ofString "-")).to (by first | exact rfl | omega) (by first | exact rfl | omega) (by rw [show Builtin.Str.occurrences (TX 3) (Str.ofString "-") 5 4 1 = [] by decide +kernel]) rfl)
      ((slice_cat ht (i := 3) (j := 4) (by decide) (by decide +kernel)).to (by first | exact rfl | omega) (by first | exact rfl | omega) (by decide +kernel))
    intro q hq
    rcases List.mem_cons.mp hq with rfl | hq
    · exact Nat.ne_of_gt h99
    · rcases List.mem_cons.mp hq with rfl | hq
      · exact Nat.ne_of_gt (Nat.lt_trans h99 hlq)
      · exact hall9 q hq

end
-- T15
section
theorem brk4 {w : World} {A : Around} {E : Value → Shared → Prop} {s : Shared} {gg : Heap} {Lf lr qa : Addr} {m9 : Str → Option Value} {t9 : Obj} {rv : List Value} {e0 : Nat} {rest : List (Addr × Obj)} {loose : List Str} {mean : ExcName → Option Value} {mg mb : Str → Option Value} {ts0 : List Str} {k : Nat} {ti tn tp : Tok}
    (hPO : PassesOwn (model PySem.Challenge.rw_ij0118_01.row.prog w) A (trEnv w.params Lf) E) (hA : A.handled = none) (hdep : A.depth < 900) (F : Fr gg Lf s.heap m9) (N : News gg Lf s.heap ((99, t9) :: (lr, listOf rv.toArray e0) :: (qa, bndO lr) :: rest)) (X : (hd.heap_1 w.params).In gg) (T : Top topProg loose mean mg mb gg) (cd9 : CodeHd gg 103 99)
    (hall : ∀ p ∈ rest, p.1 ≠ lr) (hall9 : ∀ p ∈ rest, p.1 ≠ 99) (hlq : @LT.lt Nat _ lr qa) (h99 : @LT.lt Nat _ 99 lr) (hrv : rv.toArray.size ≤ sizeLine)
    (ok9 : T99 t9) (G : AllBare s.gens) (ht : ts0[k]? = some (TX 4)) (hP : (catS ts0).length ≤ 1000) (hP9 : (catS ts0).length < 900) (p1 : m9 (Str.ofString "pat") = some (.str (catS ts0) tp)) (p2 : m9 (Str.ofString "i") = some (.int (offs ts0 k + 1) ti)) (p3 : m9 (Str.ofString "n") = some (.int ((catS ts0).length : Nat) tn)) (p4 : m9 (Str.ofString "add") = some (.ref qa)) :
    wpAny (model PySem.Challenge.rw_ij0118_01.row.prog w) A (execs (trBr w.params) (trEnv w.params Lf)) (BrkPost s gg Lf lr qa m9 rv e0 rest (PT 4) (offs ts0 k + 3)) E s := by
  obtain ⟨o1, o2⟩ := offs_le ht
  have hl : (TX 4).length = 4 := by decide +kernel
  have hit := fun j hj => item_cat ht (j := j) hj
  refine brk_spec (S' := Str.ofString "c\\-") (p := PT 4) (c0 := Str.ofString "c") (c1 := Str.ofString "-") (x := offs ts0 k + 1) (e := offs ts0 k + 3) hPO hA hdep F N X T cd9 hall hall9 hlq h99 hrv hP (rg9 o2 o1 hP9 (by decide) (by decide) (by decide +kernel)) (lt_in o1 (by decide +kernel)) p1 p2 p3 p4
    ((hit 1 (by decide +kernel)).to (by first | exact rfl | omega) (by decide +kernel)) ((hit 2 (by decide +kernel)).to (by first | exact rfl | omega) (by decide +kernel)) (by decide) (by decide) (fun h => absurd h (by decide)) ((hit 3 (by decide +kernel)).to (by first | exact rfl | omega) (by decide +kernel)) (fun jj h1 h2 => ?_) (fun s1 m1 tj hos hg F1 N1 hj hm => ?_) (by decide +kernel)
  · rcases (in2 h1 h2) with rfl | rfl
    · exact ⟨_, (hit 1 (by decide +kernel)).to (by first | exact rfl | omega) rfl, by decide +kernel⟩
    · exact ⟨_, (hit 2 (by decide +kernel)).to (by first | exact rfl | omega) rfl, by decide +kernel⟩
  · refine mid_dash (S := Str.ofString "c-") hPO hA hdep F1 N1 X T hP (rg9 o2 o1 hP9 (by decide) (by decide) (by decide +kernel)) ((hm _ (by decide)).trans p1) ((hm _ (by decide)).trans p2) hj ((slice_cat ht (i := 1) (j := 3) (by decide) (by decide +kernel)).to (by first | exact rfl | omega) (by first | exact rfl | omega) (by decide +kernel)) (by decide +kernel) (fun s2 m2 hos2 hg2 F2 N2 hm2 => ?_)
    refine dash4 hPO hA hdep F2 N2 X T ok9 cd9 (by rw [hg2, hg]; exact G) ?_ hP (rg o2 o1 hP9 (by decide) (by decide) (by decide +kernel)) ((hm2 _ (by decide)).trans ((hm _ (by decide)).trans p1)) ((hm2 _ (by decide)).trans ((hm _ (by decide)).trans p2)) ((hm2 _ (by decide)).trans hj)
      ((hit 1 (by decide +kernel)).to (by first | exact rfl | omega) (by decide +kernel)) ((find_cat ht (i := 2) (j := 3) (by decide +kernel) (Str.ofString "-")).to (by first | exact rfl | omega) (by first | exact rfl | omega) (by rw [show Builtin.Str.occurrences (TX 4) (Str.ofString "-") 2 3 1 = [2] by decide +kernel]; show _ + ((2 : Nat) : Int) = _; first | exact rfl | omega) rfl) ((slice_cat ht (i := 1) (j := 2) (by decide) (by decide +kernel)).to (by first | exact rfl | omega) (by first | exact rfl | omega) (by decide +kernel)) ((find_cat ht (i := 5) (j := 3) (by decide +kernel) (Str.ofString "-")).to (by first | exact rfl | omega) (by first | exact rfl | omega) (by rw [show Builtin.Str.occurrences (TX 4) (Str.ofString "-") 5 3 1 = [] by decide +kernel]) rfl) ((slice_cat ht (i := 3) (j := 3) (by decide) (by decide +kernel)).to (by first | exact rfl | omega) (by first | exact rfl | omega) (by decide +kernel))
    intro q hq
    rcases List.mem_cons.mp hq with rfl | hq
    · exact Nat.ne_of_gt h99
    · rcases List.mem_cons.mp hq with rfl | hq
      · exact Nat.ne_of_gt (Nat.lt_trans h99 hlq)
      · exact hall9 q hq
theorem brk5 {w : World} {A : Around} {E : Value → Shared → Prop} {s : Shared} {gg : Heap} {Lf lr qa : Addr} {m9 : Str → Option Value} {t9 : Obj} {rv : List Value} {e0 : Nat} {rest : List (Addr × Obj)} {loose : List Str} {mean : ExcName → Option Value} {mg mb : Str → Option Value} {ts0 : List Str} {k : Nat} {ti tn tp : Tok}
    (hPO : PassesOwn (model PySem.Challenge.rw_ij0118_01.row.prog w) A (trEnv w.params Lf) E) (hA : A.handled = none) (hdep : A.depth < 900) (F : Fr gg Lf s.heap m9) (N : News gg Lf s.heap ((99, t9) :: (lr, listOf rv.toArray e0) :: (qa, bndO lr) :: rest)) (X : (hd.heap_1 w.params).In gg) (T : Top topProg loose mean mg mb gg) (cd9 : CodeHd gg 103 99)
    (hall : ∀ p ∈ rest, p.1 ≠ lr) (hall9 : ∀ p ∈ rest, p.1 ≠ 99) (hlq : @LT.lt Nat _ lr qa) (h99 : @LT.lt Nat _ 99 lr) (hrv : rv.toArray.size ≤ sizeLine)
    (ok9 : T99 t9) (G : AllBare s.gens) (ht : ts0[k]? = some (TX 5)) (hP : (catS ts0).length ≤ 1000) (hP9 : (catS ts0).length < 900) (p1 : m9 (Str.ofString "pat") = some (.str (catS ts0) tp)) (p2 : m9 (Str.ofString "i") = some (.int (offs ts0 k + 1) ti)) (p3 : m9 (Str.ofString "n") = some (.int ((catS ts0).length : Nat) tn)) (p4 : m9 (Str.ofString "add") = some (.ref qa)) :
    wpAny (model PySem.Challenge.rw_ij0118_01.row.prog w) A (execs (trBr w.params) (trEnv w.params Lf)) (BrkPost s gg Lf lr qa m9 rv e0 rest (PT 5) (offs ts0 k + 4)) E s := by
  obtain ⟨o1, o2⟩ := offs_le ht
  have hl : (TX 5).length = 5 := by decide +kernel
  have hit := fun j hj => item_cat ht (j := j) hj
  refine brk_spec (S' := Str.ofString "!\\-b") (p := PT 5) (c0 := Str.ofString "!") (c1 := Str.ofString "-") (x := offs ts0 k + 1) (e := offs ts0 k + 4) hPO hA hdep F N X T cd9 hall hall9 hlq h99 hrv hP (rg9 o2 o1 hP9 (by decide) (by decide) (by decide +kernel)) (lt_in o1 (by decide +kernel)) p1 p2 p3 p4
    ((hit 1 (by decide +kernel)).to (by first | exact rfl | omega) (by decide +kernel)) ((hit 2 (by decide +kernel)).to (by first | exact rfl | omega) (by decide +kernel)) (by decide) (by decide) (fun _ => by omega) ((hit 4 (by decide +kernel)).to (by first | exact rfl | omega) (by decide +kernel)) (fun jj h1 h2 => ?_) (fun s1 m1 tj hos hg F1 N1 hj hm => ?_) (by decide +kernel)
  · rcases (in3 h1 h2) with rfl | rfl | rfl
    · exact ⟨_, (hit 1 (by decide +kernel)).to (by first | exact rfl | omega) rfl, by decide +kernel⟩
    · exact ⟨_, (hit 2 (by decide +kernel)).to (by first | exact rfl | omega) rfl, by decide +kernel⟩
    · exact ⟨_, (hit 3 (by decide +kernel)).to (by first | exact rfl | omega) rfl, by decide +kernel⟩
  · refine mid_dash (S := Str.ofString "!-b") hPO hA hdep F1 N1 X T hP (rg9 o2 o1 hP9 (by decide) (by decide) (by decide +kernel)) ((hm _ (by decide)).trans p1) ((hm _ (by decide)).trans p2) hj ((slice_cat ht (i := 1) (j := 4) (by decide) (by decide +kernel)).to (by first | exact rfl | omega) (by first | exact rfl | omega) (by decide +kernel)) (by decide +kernel) (fun s2 m2 hos2 hg2 F2 N2 hm2 => ?_)
    refine dash5 hPO hA hdep F2 N2 X T ok9 cd9 (by rw [hg2, hg]; exact G) ?_ hP (rg o2 o1 hP9 (by decide) (by decide) (by decide +kernel)) ((hm2 _ (by decide)).trans ((hm _ (by decide)).trans p1)) ((hm2 _ (by decide)).trans ((hm _ (by decide)).trans p2)) ((hm2 _ (by decide)).trans hj)
      ((hit 1 (by decide +kernel)).to (by first | exact rfl | omega) (by decide +kernel)) ((find_cat ht (i := 3) (j := 4) (by decide +kernel) (Str.ofString "-")).to (by first | exact rfl | omega) (by first | exact rfl | omega) (by rw [show Builtin.Str.occurrences (TX 5) (Str.ofString "-") 3 4 1 = [] by decide +kernel]) rfl) ((slice_cat ht (i := 1) (j := 4) (by decide) (by decide +kernel)).to (by first | exact rfl | omega) (by first | exact rfl | omega) (by decide +kernel))
    intro q hq
    rcases List.mem_cons.mp hq with rfl | hq
    · exact Nat.ne_of_gt h99
    · rcases List.mem_cons.mp hq with rfl | hq
      · exact Nat.ne_of_gt (Nat.lt_trans h99 hlq)
      · exact hall9 q hq
theorem brk7 {w : World} {A : Around} {E : Value → Shared → Prop} {s : Shared} {gg : Heap} {Lf lr qa : Addr} {m9 : Str → Option Value} {t9 : Obj} {rv : List Value} {e0 : Nat} {rest : List (Addr × Obj)} {loose : List Str} {mean : ExcName → Option Value} {mg mb : Str → Option Value} {ts0 : List Str} {k : Nat} {ti tn tp : Tok}
    (hPO : PassesOwn (model PySem.Challenge.rw_ij0118_01.row.prog w) A (trEnv w.params Lf) E) (hA : A.handled = none) (hdep : A.depth < 900) (F : Fr gg Lf s.heap m9) (N : News gg Lf s.heap ((99, t9) :: (lr, listOf rv.toArray e0) :: (qa, bndO lr) :: rest)) (X : (hd.heap_1 w.params).In gg) (T : Top topProg loose mean mg mb gg) (cd9 : CodeHd gg 103 99)
    (hall : ∀ p ∈ rest, p.1 ≠ lr) (hall9 : ∀ p ∈ rest, p.1 ≠ 99) (hlq : @LT.lt Nat _ lr qa) (h99 : @LT.lt Nat _ 99 lr) (hrv : rv.toArray.size ≤ sizeLine)
    (ok9 : T99 t9) (G : AllBare s.gens) (ht : ts0[k]? = some (TX 7)) (hP : (catS ts0).length ≤ 1000) (hP9 : (catS ts0).length < 900) (p1 : m9 (Str.ofString "pat") = some (.str (catS ts0) tp)) (p2 : m9 (Str.ofString "i") = some (.int (offs ts0 k + 1) ti)) (p3 : m9 (Str.ofString "n") = some (.int ((catS ts0).length : Nat) tn)) (p4 : m9 (Str.ofString "add") = some (.ref qa)) :
    wpAny (model PySem.Challenge.rw_ij0118_01.row.prog w) A (execs (trBr w.params) (trEnv w.params Lf)) (BrkPost s gg Lf lr qa m9 rv e0 rest (PT 7) (offs ts0 k + 5)) E s := by
  obtain ⟨o1, o2⟩ := offs_le ht
  have hl : (TX 7).length = 6 := by decide +kernel
  have hit := fun j hj => item_cat ht (j := j) hj
  refine brk_spec (S' := Str.ofString "!") (p := PT 7) (c0 := Str.ofString "!") (c1 := Str.ofString "b") (x := offs ts0 k + 1) (e := offs ts0 k + 5) hPO hA hdep F N X T cd9 hall hall9 hlq h99 hrv hP (rg9 o2 o1 hP9 (by decide) (by decide) (by decide +kernel)) (lt_in o1 (by decide +kernel)) p1 p2 p3 p4
    ((hit 1 (by decide +kernel)).to (by first | exact rfl | omega) (by decide +kernel)) ((hit 2 (by decide +kernel)).to (by first | exact rfl | omega) (by decide +kernel)) (by decide) (by decide) (fun _ => by omega) ((hit 5 (by decide +kernel)).to (by first | exact rfl | omega) (by decide +kernel)) (fun jj h1 h2 => ?_) (fun s1 m1 tj hos hg F1 N1 hj hm => ?_) (by decide +kernel)
  · rcases (in4 h1 h2) with rfl | rfl | rfl | rfl
    · exact ⟨_, (hit 1 (by decide +kernel)).to (by first | exact rfl | omega) rfl, by decide +kernel⟩
    · exact ⟨_, (hit 2 (by decide +kernel)).to (by first | exact rfl | omega) rfl, by decide +kernel⟩
    · exact ⟨_, (hit 3 (by decide +kernel)).to (by first | exact rfl | omega) rfl, by decide +kernel⟩
    · exact ⟨_, (hit 4 (by decide +kernel)).to (by first | exact rfl | omega) rfl, by decide +kernel⟩
  · refine mid_dash (S := Str.ofString "!b-a") hPO hA hdep F1 N1 X T hP (rg9 o2 o1 hP9 (by decide) (by decide) (by decide +kernel)) ((hm _ (by decide)).trans p1) ((hm _ (by decide)).trans p2) hj ((slice_cat ht (i := 1) (j := 5) (by decide) (by decide +kernel)).to (by first | exact rfl | omega) (by first | exact rfl | omega) (by decide +kernel)) (by decide +kernel) (fun s2 m2 hos2 hg2 F2 N2 hm2 => ?_)
    refine dash7 hPO hA hdep F2 N2 X T ok9 cd9 (by rw [hg2, hg]; exact G) ?_ hP (rg o2 o1 hP9 (by decide) (by decide) (by decide +kernel)) ((hm2 _ (by decide)).trans ((hm _ (by decide)).trans p1)) ((hm2 _ (by decide)).trans ((hm _ (by decide)).trans p2)) ((hm2 _ (by decide)).trans hj)
      ((hit 1 (by decide +kernel)).to (by first | exact rfl | omega) (by decide +kernel)) ((find_cat ht (i := 3) (j := 5) (by decide +kernel) (Str.ofString "-")).to (by first | exact rfl | omega) (by first | exact rfl | omega) (by rw [show Builtin.Str.occurrences (TX 7) (Str.ofString "-") 3 5 1 = [3] by decide +kernel]; show _ + ((3 : Nat) : Int) = _; first | exact rfl | omega) rfl) ((slice_cat ht (i := 1) (j := 3) (by decide) (by decide +kernel)).to (by first | exact rfl | omega) (by first | exact rfl | omega) (by decide +kernel)) ((find_cat ht (i := 6) (j := 5) (by decide +kernel) (Str.ofString "-")).to (by first | exact rfl | omega) (by first | exact rfl | omega) (by rw [show Builtin.Str.occurrences (TX 7) (Str.ofString "-") 6 5 1 = [] by decide +kernel]) rfl) ((slice_cat ht (i := 4) (j := 5) (by decide) (by decide +kernel)).to (by first | exact rfl | omega) (by first | exact rfl | omega) (by decide +kernel))
    intro q hq
    rcases List.mem_cons.mp hq with rfl | hq
    · exact Nat.ne_of_gt h99
    · rcases List.mem_cons.mp hq with rfl | hq
      · exact Nat.ne_of_gt (Nat.lt_trans h99 hlq)
      · exact hall9 q hq
theorem brk8 {w : World} {A : Around} {E : Value → Shared → Prop} {s : Shared} {gg : Heap} {Lf lr qa : Addr} {m9 : Str → Option Value} {t9 : Obj} {rv : List Value} {e0 : Nat} {rest : List (Addr × Obj)} {loose : List Str} {mean : ExcName → Option Value} {mg mb : Str → Option Value} {ts0 : List Str} {k : Nat} {ti tn tp : Tok}
    (hPO : PassesOwn (model PySem.Challenge.rw_ij0118_01.row.prog w) A (trEnv w.params Lf) E) (hA : A.handled = none) (hdep : A.depth < 900) (F : Fr gg Lf s.heap m9) (N : News gg Lf s.heap ((99, t9) :: (lr, listOf rv.toArray e0) :: (qa, bndO lr) :: rest)) (X : (hd.heap_1 w.params).In gg) (T : Top topProg loose mean mg mb gg) (cd9 : CodeHd gg 103 99)
    (hall : ∀ p ∈ rest, p.1 ≠ lr) (hall9 : ∀ p ∈ rest, p.1 ≠ 99) (hlq : @LT.lt Nat _ lr qa) (h99 : @LT.lt Nat _ 99 lr) (hrv : rv.toArray.size ≤ sizeLine)
    (ok9 : T99 t9) (G : AllBare s.gens) (ht : ts0[k]? = some (TX 8)) (hP : (catS ts0).length ≤ 1000) (hP9 : (catS ts0).length < 900) (p1 : m9 (Str.ofString "pat") = some (.str (catS ts0) tp)) (p2 : m9 (Str.ofString "i") = some (.int (offs ts0 k + 1) ti)) (p3 : m9 (Str.ofString "n") = some (.int ((catS ts0).length : Nat) tn)) (p4 : m9 (Str.ofString "add") = some (.ref qa)) :
    wpAny (model PySem.Challenge.rw_ij0118_01.row.prog w) A (execs (trBr w.params) (trEnv w.params Lf)) (BrkPost s gg Lf lr qa m9 rv e0 rest (PT 8) (offs ts0 k + 5)) E s := by
  obtain ⟨o1, o2⟩ := offs_le ht
  have hl : (TX 8).length = 6 := by decide +kernel
  have hit := fun j hj => item_cat ht (j := j) hj
  refine brk_spec (S' := Str.ofString "!a-b") (p := PT 8) (c0 := Str.ofString "!") (c1 := Str.ofString "a") (x := offs ts0 k + 1) (e := offs ts0 k + 5) hPO hA hdep F N X T cd9 hall hall9 hlq h99 hrv hP (rg9 o2 o1 hP9 (by decide) (by decide) (by decide +kernel)) (lt_in o1 (by decide +kernel)) p1 p2 p3 p4
    ((hit 1 (by decide +kernel)).to (by first | exact rfl | omega) (by decide +kernel)) ((hit 2 (by decide +kernel)).to (by first | exact rfl | omega) (by decide +kernel)) (by decide) (by decide) (fun _ => by omega) ((hit 5 (by decide +kernel)).to (by first | exact rfl | omega) (by decide +kernel)) (fun jj h1 h2 => ?_) (fun s1 m1 tj hos hg F1 N1 hj hm => ?_) (by decide +kernel)
  · rcases (in4 h1 h2) with rfl | rfl | rfl | rfl
    · exact ⟨_, (hit 1 (by decide +kernel)).to (by first | exact rfl | omega) rfl, by decide +kernel⟩
    · exact ⟨_, (hit 2 (by decide +kernel)).to (by first | exact rfl | omega) rfl, by decide +kernel⟩
    · exact ⟨_, (hit 3 (by decide +kernel)).to (by first | exact rfl | omega) rfl, by decide +kernel⟩
    · exact ⟨_, (hit 4 (by decide +kernel)).to (by first | exact rfl | omega) rfl, by decide +kernel⟩
  · refine mid_dash (S := Str.ofString "!a-b") hPO hA hdep F1 N1 X T hP (rg9 o2 o1 hP9 (by decide) (by decide) (by decide +kernel)) ((hm _ (by decide)).trans p1) ((hm _ (by decide)).trans p2) hj ((slice_cat ht (i := 1) (j := 5) (by decide) (by decide +kernel)).to (by first | exact rfl | omega) (by first | exact rfl | omega) (by decide +kernel)) (by decide +kernel) (fun s2 m2 hos2 hg2 F2 N2 hm2 => ?_)
    refine dash8 hPO hA hdep F2 N2 X T ok9 cd9 (by rw [hg2, hg]; exact G) ?_ hP (rg o2 o1 hP9 (by decide) (by decide) (by decide +kernel)) ((hm2 _ (by decide)).trans ((hm _ (by decide)).trans p1)) ((hm2 _ (by decide)).trans ((hm _ (by decide)).trans p2)) ((hm2 _ (by decide)).trans hj)
      ((hit 1 (by decide +kernel)).to (by first | exact rfl | omega) (by decide +kernel)) ((find_cat ht (i := 3) (j := 5) (by decide +kernel) (Str.ofString "-")).to (by first | exact rfl | omega) (by first | exact rfl | omega) (by rw [show Builtin.Str.occurrences (TX 8) (Str.ofString "-") 3 5 1 = [3] by decide +kernel]; show _ + ((3 : Nat) : Int) = _; first | exact rfl | omega) rfl) ((slice_cat ht (i := 1) (j := 3) (by decide) (by decide +kernel)).to (by first | exact rfl | omega) (by first | exact rfl | omega) (by decide +kernel)) ((find_cat ht (i := 6) (j := 5) (by decide +kernel) (Str.ofString "-")).to (by first | exact rfl | omega) (by first | exact rfl | omega) (by rw [show Builtin.Str.occurrences (TX 8) (Str.ofString "-") 6 5 1 = [] by decide +kernel]) rfl) ((slice_cat ht (i := 4) (j := 5) (by decide) (by decide +kernel)).to (by first | exact rfl | omega) (by first | exact rfl | omega) (by decide +kernel))
    intro q hq
    rcases List.mem_cons.mp hq with rfl | hq
    · exact Nat.ne_of_gt h99
    · rcases List.mem_cons.mp hq with rfl | hq
      · exact Nat.ne_of_gt (Nat.lt_trans h99 hlq)
      · exact hall9 q hq
theorem brk9 {w : World} {A : Around} {E : Value → Shared → Prop} {s : Shared} {gg : Heap} {Lf lr qa : Addr} {m9 : Str → Option Value} {t9 : Obj} {rv : List Value} {e0 : Nat} {rest : List (Addr × Obj)} {loose : List Str} {mean : ExcName → Option Value} {mg mb : Str → Option Value} {ts0 : List Str} {k : Nat} {ti tn tp : Tok}
    (hPO : PassesOwn (model PySem.Challenge.rw_ij0118_01.row.prog w) A (trEnv w.params Lf) E) (hA : A.handled = none) (hdep : A.depth < 900) (F : Fr gg Lf s.heap m9) (N : News gg Lf s.heap ((99, t9) :: (lr, listOf rv.toArray e0) :: (qa, bndO lr) :: rest)) (X : (hd.heap_1 w.params).In gg) (T : Top topProg loose mean mg mb gg) (cd9 : CodeHd gg 103 99)
    (hall : ∀ p ∈ rest, p.1 ≠ lr) (hall9 : ∀ p ∈ rest, p.1 ≠ 99) (hlq : @LT.lt Nat _ lr qa) (h99 : @LT.lt Nat _ 99 lr) (hrv : rv.toArray.size ≤ sizeLine)
    (ok9 : T99 t9) (G : AllBare s.gens) (ht : ts0[k]? = some (TX 9)) (hP : (catS ts0).length ≤ 1000) (hP9 : (catS ts0).length < 900) (p1 : m9 (Str.ofString "pat") = some (.str (catS ts0) tp)) (p2 : m9 (Str.ofString "i") = some (.int (offs ts0 k + 1) ti)) (p3 : m9 (Str.ofString "n") = some (.int ((catS ts0).length : Nat) tn)) (p4 : m9 (Str.ofString "add") = some (.ref qa)) :
    wpAny (model PySem.Challenge.rw_ij0118_01.row.prog w) A (execs (trBr w.params) (trEnv w.params Lf)) (BrkPost s gg Lf lr qa m9 rv e0 rest (PT 9) (offs ts0 k + 4)) E s := by
  obtain ⟨o1, o2⟩ := offs_le ht
  have hl : (TX 9).length = 5 := by decide +kernel
  have hit := fun j hj => item_cat ht (j := j) hj
  refine brk_spec (S' := Str.ofString "") (p := PT 9) (c0 := Str.ofString "b") (c1 := Str.ofString "-") (x := offs ts0 k + 1) (e := offs ts0 k + 4) hPO hA hdep F N X T cd9 hall hall9 hlq h99 hrv hP (rg9 o2 o1 hP9 (by decide) (by decide) (by decide +kernel)) (lt_in o1 (by decide +kernel)) p1 p2 p3 p4
    ((hit 1 (by decide +kernel)).to (by first | exact rfl | omega) (by decide +kernel)) ((hit 2 (by decide +kernel)).to (by first | exact rfl | omega) (by decide +kernel)) (by decide) (by decide) (fun h => absurd h (by decide)) ((hit 4 (by decide +kernel)).to (by first | exact rfl | omega) (by decide +kernel)) (fun jj h1 h2 => ?_) (fun s1 m1 tj hos hg F1 N1 hj hm => ?_) (by decide +kernel)
  · rcases (in3 h1 h2) with rfl | rfl | rfl
    · exact ⟨_, (hit 1 (by decide +kernel)).to (by first | exact rfl | omega) rfl, by decide +kernel⟩
    · exact ⟨_, (hit 2 (by decide +kernel)).to (by first | exact rfl | omega) rfl, by decide +kernel⟩
    · exact ⟨_, (hit 3 (by decide +kernel)).to (by first | exact rfl | omega) rfl, by decide +kernel⟩
  · refine mid_dash (S := Str.ofString "b-a") hPO hA hdep F1 N1 X T hP (rg9 o2 o1 hP9 (by decide) (by decide) (by decide +kernel)) ((hm _ (by decide)).trans p1) ((hm _ (by decide)).trans p2) hj ((slice_cat ht (i := 1) (j := 4) (by decide) (by decide +kernel)).to (by first | exact rfl | omega) (by first | exact rfl | omega) (by decide +kernel)) (by decide +kernel) (fun s2 m2 hos2 hg2 F2 N2 hm2 => ?_)
    refine dash9 hPO hA hdep F2 N2 X T ok9 cd9 (by rw [hg2, hg]; exact G) ?_ hP (rg o2 o1 hP9 (by decide) (by decide) (by decide +kernel)) ((hm2 _ (by decide)).trans ((hm _ (by decide)).trans p1)) ((hm2 _ (by decide)).trans ((hm _ (by decide)).trans p2)) ((hm2 _ (by decide)).trans hj)
      ((hit 1 (by decide +kernel)).to (by first | exact rfl | omega) (by decide +kernel)) ((find_cat ht (i := 2) (j := 4) (by decide +kernel) (Str.ofString "-")).to (by first | exact rfl | omega) (by first | exact rfl | omega) (by rw [show Builtin.Str.occurrences (TX 9) (Str.ofString "-") 2 4 1 = [2] by decide +kernel]; show _ + ((2 : Nat) : Int) = _; first | exact rfl | omega) rfl) ((slice_cat ht (i := 1) (j := 2) (by decide) (by decide +kernel)).to (by first | exact rfl | omega) (by first | exact rfl | omega) (by decide +kernel)) ((find_cat ht (i := 5) (j := 4) (by decide +kernel) (Str.ofString "-")).to (by first | exact rfl | omega) (by first | exact rfl | omega) (by rw [show Builtin.Str.occurrences (TX 9) (Str.ofString "-") 5 4 1 = [] by decide +kernel]) rfl) ((slice_cat ht (i := 3) (j := 4) (by decide) (by decide +kernel)).to (by first | exact rfl | omega) (by first | exact rfl | omega) (by decide +kernel))
    intro q hq
    rcases List.mem_cons.mp hq with rfl | hq
    · exact Nat.ne_of_gt h99
    · rcases List.mem_cons.mp hq with rfl | hq
      · exact Nat.ne_of_gt (Nat.lt_trans h99 hlq)
      · exact hall9 q hq

end
-- T16
section
theorem fillT16 : PySem.Challenge.rw_ij0118_01 = PySem.Challenge.rw_ij0118_01 ∧ hd.heap_1 = hd.heap_1 := by
  k_fill
  exact ⟨rfl, rfl⟩
/-- what a call of escape on a sign gives -/
noncomputable def EscK (w : World) (A : Around) (E : Value → Shared → Prop) (gg : Heap) (Lf : Addr) (c y : Str) : Prop :=
  ∀ (s : Shared) (m : Str → Option Value) (news : List (Addr × Obj)) (t : Tok) (Q : Value → Shared → Prop), Fr gg Lf s.heap m → News gg Lf s.heap news →
    (∀ t' h' tk', Fr gg Lf h' m → News gg Lf h' news → Q (.str y t') { s with heap := h', toks := tk' }) →
    wpAny (model PySem.Challenge.rw_ij0118_01.row.prog w) A (call (.ref 97) [.str c t]) Q E s
theorem EscK.use {w : World} {A : Around} {E : Value → Shared → Prop} {gg : Heap} {Lf : Addr} {c y : Str} {s : Shared} {m : Str → Option Value} {news : List (Addr × Obj)} {t : Tok} {Q : Value → Shared → Prop} (h : EscK w A E gg Lf c y) (F : Fr gg Lf s.heap m) (N : News gg Lf s.heap news)
    (hq : ∀ t' h' tk', Fr gg Lf h' m → News gg Lf h' news → Q (.str y t') { s with heap := h', toks := tk' }) : wpAny (model PySem.Challenge.rw_ij0118_01.row.prog w) A (call (.ref 97) [.str c t]) Q E s := h _ _ _ _ _ F N hq



inductive TurnPost (s : Shared) (gg : Heap) (Lf lr qa : Addr) (m9 : Str → Option Value) (rv : List Value) (e0 : Nat) (rest : List (Addr × Obj)) (p : Str) (x : Int) (f : Flow) (s' : Shared) : Prop
  | mk : (f = .next) → ∀ m' t9' t ti junk, (s'.os = s.os) → (Fr gg Lf s'.heap m') → (News gg Lf s'.heap ((99, t9') :: (lr, listOf (rv ++ [Value.str p t]).toArray (e0 + 1)) :: (qa, bndO lr) :: (junk ++ rest))) → (T99 t9') → (AllBare s'.gens) → ((∀ q ∈ junk, @LT.lt Nat _ qa q.1)) → (m' (Str.ofString "i") = some (.int x ti)) → (∀ y, y ≠ Str.ofString "stuff" → y ≠ Str.ofString "chunks" → y ≠ Str.ofString "chunk" → y ≠ Str.ofString "k" → y ≠ Str.ofString "i" → y ≠ Str.ofString "j" → y ≠ Str.ofString "c" → m' y = m9 y) → TurnPost s gg Lf lr qa m9 rv e0 rest p x f s'
theorem turn_qm {w : World} {A : Around} {E : Value → Shared → Prop} {s : Shared} {gg : Heap} {Lf lr qa : Addr} {m9 : Str → Option Value} {t9 : Obj} {rv : List Value} {e0 : Nat} {rest : List (Addr × Obj)} {loose : List Str} {mean : ExcName → Option Value} {mg mb : Str → Option Value} {P : Str} {x : Int} {ti tp tq : Tok}
    (hA : A.handled = none) (F : Fr gg Lf s.heap m9) (N : News gg Lf s.heap ((99, t9) :: (lr, listOf rv.toArray e0) :: (qa, bndO lr) :: rest)) (X : (hd.heap_1 w.params).In gg) (T : Top topProg loose mean mg mb gg)
    (hall : ∀ p ∈ rest, p.1 ≠ lr) (hall9 : ∀ p ∈ rest, p.1 ≠ 99) (hlq : @LT.lt Nat _ lr qa) (h99 : @LT.lt Nat _ 99 lr) (hrv : rv.toArray.size ≤ sizeLine)
    (ok9 : T99 t9) (G : AllBare s.gens) (hP : P.length ≤ 1000) (hx : 0 ≤ x ∧ x < 900) (p1 : m9 (Str.ofString "pat") = some (.str P tp)) (p2 : m9 (Str.ofString "i") = some (.int x ti)) (p4 : m9 (Str.ofString "add") = some (.ref qa)) (p5 : m9 (Str.ofString "QUESTION_MARK") = some (.str (Str.ofString ".") tq))
    (i0 : ItemAt P x (Str.ofString "?")) :
    wpAny (model PySem.Challenge.rw_ij0118_01.row.prog w) A (execs (trTurn w.params) (trEnv w.params Lf)) (TurnPost s gg Lf lr qa m9 rv e0 rest (Str.ofString ".") (x + 1)) E s := by
  iterate 2 (first | walk1 | (dsimp only; walk1) | skip)
  (repeat' (first | (k_unfold; (try dsimp only)) | (first | with_reducible ((k_here; (with_reducible show wpAny _ _ (call (Value.ref 97) [_]) _ _ _); k_dflt (refine' EscK.use (by assumption) (by k_asm) (by k_asm) ?_); intro _ _ _ _ _; (try k_sweep))) | ((k_here; (with_reducible show wpAny _ _ (call (Value.ref 97) [_]) _ _ _); k_dflt (refine' EscK.use (by assumption) (by k_asm) (by k_asm) ?_); intro _ _ _ _ _; (try k_sweep)))) | (first | with_reducible ((k_here; (with_reducible show wpAny _ _ (call (Value.ref _) [_]) _ _ _); k_dflt (refine' call_bnd (by k_asm) (by k_asm) (by k_mem) (by k_upd) ?_ (by first | assumption | omega | size_fits)); intro _ _ _; (try k_sweep))) | ((k_here; (with_reducible show wpAny _ _ (call (Value.ref _) [_]) _ _ _); k_dflt (refine' call_bnd (by k_asm) (by k_asm) (by k_mem) (by k_upd) ?_ (by first | assumption | omega | size_fits)); intro _ _ _; (try k_sweep)))) | (first | with_reducible (((with_reducible show StandsB _ _ _ ∧ _); k_dflt (refine ⟨standsB_of (by k_asm) (by k_mem), ?_⟩); (try dsimp only [List.nil_append, List.cons_append]))) | (((with_reducible show StandsB _ _ _ ∧ _); k_dflt (refine ⟨standsB_of (by k_asm) (by k_mem), ?_⟩); (try dsimp only [List.nil_append, List.cons_append])))) | (first | with_reducible ((k_here; (with_reducible show wpAny _ _ (callWith _ (Value.ref _) _ (backTo _ (starEach (_ :: _) _)) []) _ _ _); k_dflt (refine' callWith_bnd (by k_asm) (by k_mem) ?_; k_whole))) | ((k_here; (with_reducible show wpAny _ _ (callWith _ (Value.ref _) _ (backTo _ (starEach (_ :: _) _)) []) _ _ _); k_dflt (refine' callWith_bnd (by k_asm) (by k_mem) ?_; k_whole)))) | ((fail_if_success (with_reducible show wpAny _ _ (exec (Stmt.While _ _ _ _) _) _ _ _)); (fail_if_success (with_reducible show wpAny _ _ (execs (Stmt.Assign [PySem.Expr.Name (PySem.Str.ofString "stuff") _] _ _ :: _) _) _ _ _)); (fail_if_success (with_reducible show UnrEnd _ _ _ _ _ _ _)); (fail_if_success (with_reducible show _ = _ ∧ _)); walk1) | ((fail_if_success (with_reducible show wpAny _ _ (exec (Stmt.While _ _ _ _) _) _ _ _)); (fail_if_success (with_reducible show wpAny _ _ (execs (Stmt.Assign [PySem.Expr.Name (PySem.Str.ofString "stuff") _] _ _ :: _) _) _ _ _)); (fail_if_success (with_reducible show UnrEnd _ _ _ _ _ _ _)); (fail_if_success (with_reducible show _ = _ ∧ _)); dsimp only; walk1) | (leave1; walk_say "STEP leave1"; try dsimp only) | fail "no step"))
  refine ⟨rfl, _, t9, _, _, [], rfl, by k_asm, (by rename News gg Lf _ _ => hN9; rw [List.push_toArray] at hN9; exact hN9), ok9, G, (fun q hq => nomatch hq), rfl, fun y g1 g2 g3 g4 g5 g6 g7 => ?_⟩
  simp only [g5, g7, if_false]
theorem turn_c {w : World} {A : Around} {E : Value → Shared → Prop} {s : Shared} {gg : Heap} {Lf lr qa : Addr} {m9 : Str → Option Value} {t9 : Obj} {rv : List Value} {e0 : Nat} {rest : List (Addr × Obj)} {loose : List Str} {mean : ExcName → Option Value} {mg mb : Str → Option Value} {P c y : Str} {x : Int} {ti tp : Tok}
    (hA : A.handled = none) (F : Fr gg Lf s.heap m9) (N : News gg Lf s.heap ((99, t9) :: (lr, listOf rv.toArray e0) :: (qa, bndO lr) :: rest)) (X : (hd.heap_1 w.params).In gg) (T : Top topProg loose mean mg mb gg)
    (hall : ∀ p ∈ rest, p.1 ≠ lr) (hall9 : ∀ p ∈ rest, p.1 ≠ 99) (hlq : @LT.lt Nat _ lr qa) (h99 : @LT.lt Nat _ 99 lr) (hrv : rv.toArray.size ≤ sizeLine)
    (ok9 : T99 t9) (G : AllBare s.gens) (hP : P.length ≤ 1000) (hx : 0 ≤ x ∧ x < 900) (p1 : m9 (Str.ofString "pat") = some (.str P tp)) (p2 : m9 (Str.ofString "i") = some (.int x ti)) (p4 : m9 (Str.ofString "add") = some (.ref qa))
    (i0 : ItemAt P x c) (c1 : (c == Str.ofString "*") = false) (c2 : (c == Str.ofString "?") = false) (c3 : (c == Str.ofString "[") = false) (hEsc : EscK w A E gg Lf c y) :
    wpAny (model PySem.Challenge.rw_ij0118_01.row.prog w) A (execs (trTurn w.params) (trEnv w.params Lf)) (TurnPost s gg Lf lr qa m9 rv e0 rest y (x + 1)) E s := by
  iterate 2 (first | walk1 | (dsimp only; walk1) | skip)
  (repeat' (first | (k_unfold; (try dsimp only)) | (first | with_reducible ((k_here; (with_reducible show wpAny _ _ (call (Value.ref 97) [_]) _ _ _); k_dflt (refine' EscK.use (by assumption) (by k_asm) (by k_asm) ?_); intro _ _ _ _ _; (try k_sweep))) | ((k_here; (with_reducible show wpAny _ _ (call (Value.ref 97) [_]) _ _ _); k_dflt (refine' EscK.use (by assumption) (by k_asm) (by k_asm) ?_); intro _ _ _ _ _; (try k_sweep)))) | (first | with_reducible ((k_here; (with_reducible show wpAny _ _ (call (Value.ref _) [_]) _ _ _); k_dflt (refine' call_bnd (by k_asm) (by k_asm) (by k_mem) (by k_upd) ?_ (by first | assumption | omega | size_fits)); intro _ _ _; (try k_sweep))) | ((k_here; (with_reducible show wpAny _ _ (call (Value.ref _) [_]) _ _ _); k_dflt (refine' call_bnd (by k_asm) (by k_asm) (by k_mem) (by k_upd) ?_ (by first | assumption | omega | size_fits)); intro _ _ _; (try k_sweep)))) | (first | with_reducible (((with_reducible show StandsB _ _ _ ∧ _); k_dflt (refine ⟨standsB_of (by k_asm) (by k_mem), ?_⟩); (try dsimp only [List.nil_append, List.cons_append]))) | (((with_reducible show StandsB _ _ _ ∧ _); k_dflt (refine ⟨standsB_of (by k_asm) (by k_mem), ?_⟩); (try dsimp only [List.nil_append, List.cons_append])))) | (first | with_reducible ((k_here; (with_reducible show wpAny _ _ (callWith _ (Value.ref _) _ (backTo _ (starEach (_ :: _) _)) []) _ _ _); k_dflt (refine' callWith_bnd (by k_asm) (by k_mem) ?_; k_whole))) | ((k_here; (with_reducible show wpAny _ _ (callWith _ (Value.ref _) _ (backTo _ (starEach (_ :: _) _)) []) _ _ _); k_dflt (refine' callWith_bnd (by k_asm) (by k_mem) ?_; k_whole)))) | ((fail_if_success (with_reducible show wpAny _ _ (exec (Stmt.While _ _ _ _) _) _ _ _)); (fail_if_success (with_reducible show wpAny _ _ (execs (Stmt.Assign [PySem.Expr.Name (PySem.Str.ofString "stuff") _] _ _ :: _) _) _ _ _)); (fail_if_success (with_reducible show UnrEnd _ _ _ _ _ _ _)); (fail_if_success (with_reducible show _ = _ ∧ _)); walk1) | ((fail_if_success (with_reducible show wpAny _ _ (exec (Stmt.While _ _ _ _) _) _ _ _)); (fail_if_success (with_reducible show wpAny _ _ (execs (Stmt.Assign [PySem.Expr.Name (PySem.Str.ofString "stuff") _] _ _ :: _) _) _ _ _)); (fail_if_success (with_reducible show UnrEnd _ _ _ _ _ _ _)); (fail_if_success (with_reducible show _ = _ ∧ _)); dsimp only; walk1) | (leave1; walk_say "STEP leave1"; try dsimp only) | fail "no step"))
  refine ⟨rfl, _, t9, _, _, [], rfl, by k_asm, (by rename News gg Lf _ _ => hN9; rw [List.push_toArray] at hN9; exact hN9), ok9, G, (fun q hq => nomatch hq), rfl, fun y g1 g2 g3 g4 g5 g6 g7 => ?_⟩
  simp only [g5, g7, if_false]
theorem turn_br {w : World} {A : Around} {E : Value → Shared → Prop} {s : Shared} {gg : Heap} {Lf lr qa : Addr} {m9 : Str → Option Value} {t9 : Obj} {rv : List Value} {e0 : Nat} {rest : List (Addr × Obj)} {loose : List Str} {mean : ExcName → Option Value} {mg mb : Str → Option Value} {P p : Str} {x e : Int} {ti tp : Tok}
    (hA : A.handled = none) (F : Fr gg Lf s.heap m9) (N : News gg Lf s.heap ((99, t9) :: (lr, listOf rv.toArray e0) :: (qa, bndO lr) :: rest)) (X : (hd.heap_1 w.params).In gg) (T : Top topProg loose mean mg mb gg)
    (hP : P.length ≤ 1000) (hx : 0 ≤ x ∧ x < 900) (p1 : m9 (Str.ofString "pat") = some (.str P tp)) (p2 : m9 (Str.ofString "i") = some (.int x ti))
    (i0 : ItemAt P x (Str.ofString "["))
    (hB : ∀ (s1 : Shared) (m1 : Str → Option Value) (ti1 : Tok), s1.os = s.os → s1.gens = s.gens → Fr gg Lf s1.heap m1 → News gg Lf s1.heap ((99, t9) :: (lr, listOf rv.toArray e0) :: (qa, bndO lr) :: rest) → m1 (Str.ofString "i") = some (.int (x + 1) ti1) → (∀ y, y ≠ Str.ofString "i" → y ≠ Str.ofString "c" → m1 y = m9 y) →
      wpAny (model PySem.Challenge.rw_ij0118_01.row.prog w) A (execs (trBr w.params) (trEnv w.params Lf)) (BrkPost s1 gg Lf lr qa m1 rv e0 rest p e) E s1) :
    wpAny (model PySem.Challenge.rw_ij0118_01.row.prog w) A (execs (trTurn w.params) (trEnv w.params Lf)) (TurnPost s gg Lf lr qa m9 rv e0 rest p (e + 1)) E s := by
  iterate 2 (first | walk1 | (dsimp only; walk1) | skip)
  repeat' (first | (k_unfold; (try dsimp only)) | ((fail_if_success (with_reducible show wpAny _ _ (execs (Stmt.Assign [PySem.Expr.Name (PySem.Str.ofString "j") _] _ _ :: _) _) _ _ _)); walk1) | ((fail_if_success (with_reducible show wpAny _ _ (execs (Stmt.Assign [PySem.Expr.Name (PySem.Str.ofString "j") _] _ _ :: _) _) _ _ _)); dsimp only; walk1))
  refine wpAny_mono (show wpAny _ A (execs (trBr w.params) (trEnv w.params Lf)) _ E _ from hB _ _ _ rfl rfl (by k_asm) (by k_asm) rfl (fun y g1 g2 => by simp only [g1, g2, if_false])) ?_ (fun _ _ e => e)
  rintro f s2 ⟨rfl, m2, t92, t2, ti2, junk, hos, F2, N2, ok2, G2, hj2, hi2, hm2⟩
  iterate 3 (refine wpAny_execs_nil ?_)
  refine (show TurnPost s gg Lf lr qa m9 rv e0 rest p (e + 1) .next _ from ⟨rfl, m2, t92, t2, ti2, junk, hos, F2, N2, ok2, G2, hj2, hi2, fun y g1 g2 g3 g4 g5 g6 g7 => ?_⟩)
  rw [hm2 y g1 g2 g3 g4 g5 g6]
  simp only [g5, g7, if_false]

end
-- T17
section
theorem fillT17 : PySem.Challenge.rw_ij0118_01 = PySem.Challenge.rw_ij0118_01 ∧ hd.heap_1 = hd.heap_1 := by
  k_fill
  exact ⟨rfl, rfl⟩

theorem turn_item {w : World} {A : Around} {E : Value → Shared → Prop} {s : Shared} {gg : Heap} {Lf lr qa : Addr} {m9 : Str → Option Value} {t9 : Obj} {rv : List Value} {e0 : Nat} {rest : List (Addr × Obj)} {loose : List Str} {mean : ExcName → Option Value} {mg mb : Str → Option Value} {ts0 : List Str} {k : Nat} {ti tn tp tq : Tok} (n : Nat) (hn : n < 11)
    (hPO : PassesOwn (model PySem.Challenge.rw_ij0118_01.row.prog w) A (trEnv w.params Lf) E) (hA : A.handled = none) (hdep : A.depth < 900) (F : Fr gg Lf s.heap m9) (N : News gg Lf s.heap ((99, t9) :: (lr, listOf rv.toArray e0) :: (qa, bndO lr) :: rest)) (X : (hd.heap_1 w.params).In gg) (T : Top topProg loose mean mg mb gg) (cd9 : CodeHd gg 103 99)
    (hall : ∀ p ∈ rest, p.1 ≠ lr) (hall9 : ∀ p ∈ rest, p.1 ≠ 99) (hlq : @LT.lt Nat _ lr qa) (h99 : @LT.lt Nat _ 99 lr) (hrv : rv.toArray.size ≤ sizeLine)
    (ok9 : T99 t9) (G : AllBare s.gens) (ht : ts0[k]? = some (TX n)) (hP : (catS ts0).length ≤ 1000) (hP9 : (catS ts0).length < 900) (p1 : m9 (Str.ofString "pat") = some (.str (catS ts0) tp)) (p2 : m9 (Str.ofString "i") = some (.int (offs ts0 k) ti)) (p3 : m9 (Str.ofString "n") = some (.int ((catS ts0).length : Nat) tn)) (p4 : m9 (Str.ofString "add") = some (.ref qa)) (p5 : m9 (Str.ofString "QUESTION_MARK") = some (.str (Str.ofString ".") tq))
    (ec : EscK w A E gg Lf (Str.ofString "c") (Str.ofString "c")) (ed : EscK w A E gg Lf (Str.ofString "-") (Str.ofString "\\-")) :
    wpAny (model PySem.Challenge.rw_ij0118_01.row.prog w) A (execs (trTurn w.params) (trEnv w.params Lf)) (TurnPost s gg Lf lr qa m9 rv e0 rest (PT n) (offs ts0 (k + 1))) E s := by
  obtain ⟨o1, o2⟩ := offs_le ht
  have hos := offs_succ ht
  have hit := fun j hj => item_cat ht (j := j) hj
  have htl := TX_len n hn
  have h0 : ∀ c, Txt.item (TX n) 0 = c → ItemAt (catS ts0) (offs ts0 k) c := fun c hc => (hit 0 htl.1).to (by simp) hc
  have hx : 0 ≤ offs ts0 k ∧ offs ts0 k < 900 := by omega
  rcases ((show ∀ n, n < 11 → (n = 0 ∨ n = 6 ∨ n = 10 ∨ (n = 1 ∨ n = 2 ∨ n = 3 ∨ n = 4 ∨ n = 5 ∨ n = 7 ∨ n = 8 ∨ n = 9)) by decide +kernel) n (by assumption)) with rfl | rfl | rfl | hbr
  · have hl : (TX 0).length = 1 := by decide +kernel
    rw [hos, hl]
    exact turn_qm hA F N X T hall hall9 hlq h99 hrv ok9 G hP hx p1 p2 p4 p5 (h0 _ (by decide +kernel))
  · have hl : (TX 6).length = 1 := by decide +kernel
    rw [hos, hl]
    exact turn_c hA F N X T hall hall9 hlq h99 hrv ok9 G hP hx p1 p2 p4 (h0 (Str.ofString "c") (by decide +kernel)) (by decide) (by decide) (by decide) ec
  · have hl : (TX 10).length = 1 := by decide +kernel
    rw [hos, hl]
    exact turn_c hA F N X T hall hall9 hlq h99 hrv ok9 G hP hx p1 p2 p4 (h0 (Str.ofString "-") (by decide +kernel)) (by decide) (by decide) (by decide) ed
  · obtain ⟨e, he, hb⟩ : ∃ e, e + 1 = offs ts0 (k + 1) ∧ ∀ (s1 : Shared) (m1 : Str → Option Value) (ti1 : Tok), s1.gens = s.gens → Fr gg Lf s1.heap m1 → News gg Lf s1.heap ((99, t9) :: (lr, listOf rv.toArray e0) :: (qa, bndO lr) :: rest) → m1 (Str.ofString "i") = some (.int (offs ts0 k + 1) ti1) → (∀ y, y ≠ Str.ofString "i" → y ≠ Str.ofString "c" → m1 y = m9 y) →
        wpAny (model PySem.Challenge.rw_ij0118_01.row.prog w) A (execs (trBr w.params) (trEnv w.params Lf)) (BrkPost s1 gg Lf lr qa m1 rv e0 rest (PT n) e) E s1 := by
      rcases hbr with rfl | rfl | rfl | rfl | rfl | rfl | rfl | rfl
      · have hl : (TX 1).length = 4 := by decide +kernel
        refine ⟨offs ts0 k + 3, by rw [hos, hl, Int.add_assoc]; rfl, fun s1 m1 ti1 hg F1 N1 hi hm => ?_⟩
        exact brk1 hPO hA hdep F1 N1 X T cd9 hall hall9 hlq h99 hrv ok9 (by rw [hg]; exact G) ht hP hP9 ((hm _ (by decide) (by decide)).trans p1) hi ((hm _ (by decide) (by decide)).trans p3) ((hm _ (by decide) (by decide)).trans p4)
      · have hl : (TX 2).length = 4 := by decide +kernel
        refine ⟨offs ts0 k + 3, by rw [hos, hl, Int.add_assoc]; rfl, fun s1 m1 ti1 hg F1 N1 hi hm => ?_⟩
        exact brk2 hPO hA hdep F1 N1 X T cd9 hall hall9 hlq h99 hrv ok9 (by rw [hg]; exact G) ht hP hP9 ((hm _ (by decide) (by decide)).trans p1) hi ((hm _ (by decide) (by decide)).trans p3) ((hm _ (by decide) (by decide)).trans p4)
      · have hl : (TX 3).length = 5 := by decide +kernel
        refine ⟨offs ts0 k + 4, by rw [hos, hl, Int.add_assoc]; rfl, fun s1 m1 ti1 hg F1 N1 hi hm => ?_⟩
        exact brk3 hPO hA hdep F1 N1 X T cd9 hall hall9 hlq h99 hrv ok9 (by rw [hg]; exact G) ht hP hP9 ((hm _ (by decide) (by decide)).trans p1) hi ((hm _ (by decide) (by decide)).trans p3) ((hm _ (by decide) (by decide)).trans p4)
      · have hl : (TX 4).length = 4 := by decide +kernel
        refine ⟨offs ts0 k + 3, by rw [hos, hl, Int.add_assoc]; rfl, fun s1 m1 ti1 hg F1 N1 hi hm => ?_⟩
        exact brk4 hPO hA hdep F1 N1 X T cd9 hall hall9 hlq h99 hrv ok9 (by rw [hg]; exact G) ht hP hP9 ((hm _ (by decide) (by decide)).trans p1) hi ((hm _ (by decide) (by decide)).trans p3) ((hm _ (by decide) (by decide)).trans p4)
      · have hl : (TX 5).length = 5 := by decide +kernel
        refine ⟨offs ts0 k + 4, by rw [hos, hl, Int.add_assoc]; rfl, fun s1 m1 ti1 hg F1 N1 hi hm => ?_⟩
        exact brk5 hPO hA hdep F1 N1 X T cd9 hall hall9 hlq h99 hrv ok9 (by rw [hg]; exact G) ht hP hP9 ((hm _ (by decide) (by decide)).trans p1) hi ((hm _ (by decide) (by decide)).trans p3) ((hm _ (by decide) (by decide)).trans p4)
      · have hl : (TX 7).length = 6 := by decide +kernel
        refine ⟨offs ts0 k + 5, by rw [hos, hl, Int.add_assoc]; rfl, fun s1 m1 ti1 hg F1 N1 hi hm => ?_⟩
        exact brk7 hPO hA hdep F1 N1 X T cd9 hall hall9 hlq h99 hrv ok9 (by rw [hg]; exact G) ht hP hP9 ((hm _ (by decide) (by decide)).trans p1) hi ((hm _ (by decide) (by decide)).trans p3) ((hm _ (by decide) (by decide)).trans p4)
      · have hl : (TX 8).length = 6 := by decide +kernel
        refine ⟨offs ts0 k + 5, by rw [hos, hl, Int.add_assoc]; rfl, fun s1 m1 ti1 hg F1 N1 hi hm => ?_⟩
        exact brk8 hPO hA hdep F1 N1 X T cd9 hall hall9 hlq h99 hrv ok9 (by rw [hg]; exact G) ht hP hP9 ((hm _ (by decide) (by decide)).trans p1) hi ((hm _ (by decide) (by decide)).trans p3) ((hm _ (by decide) (by decide)).trans p4)
      · have hl : (TX 9).length = 5 := by decide +kernel
        refine ⟨offs ts0 k + 4, by rw [hos, hl, Int.add_assoc]; rfl, fun s1 m1 ti1 hg F1 N1 hi hm => ?_⟩
        exact brk9 hPO hA hdep F1 N1 X T cd9 hall hall9 hlq h99 hrv ok9 (by rw [hg]; exact G) ht hP hP9 ((hm _ (by decide) (by decide)).trans p1) hi ((hm _ (by decide) (by decide)).trans p3) ((hm _ (by decide) (by decide)).trans p4)
    rw [← he]
    refine turn_br hA F N X T hP hx p1 p2 (h0 _ ?_) (fun s1 m1 ti1 _ hg F1 N1 hi hm => hb s1 m1 ti1 hg F1 N1 hi hm)
    rcases hbr with rfl | rfl | rfl | rfl | rfl | rfl | rfl | rfl <;> decide +kernel

end
-- T18
section
theorem fillT18 : PySem.Challenge.rw_ij0118_01 = PySem.Challenge.rw_ij0118_01 ∧ hd.heap_1 = hd.heap_1 := by
  k_fill
  exact ⟨rfl, rfl⟩
/-- contract of _translate and of translate: the code table 99 may be filled, finished generators pushed -/
noncomputable def TTs (w : World) (loose : List Str) (mean : ExcName → Option Value) (mg mb : Str → Option Value) (dp un : Nat) (f : Addr)
    (vs : List Value) (Res : List (Addr × Obj) → Value → Prop) : Prop :=
  ∀ (dp' un' : Nat) (gd : Option (List Code)) (cn : Str) (cs : Scope) (a : Addr) (ccd : Value) (cl : List (Str × Addr)) (outer : List Env) (A₀ : Around) (base h₀ : Heap) (L : Addr)
    (m : Str → Option Value) (t9 : Obj) (rest : List (Addr × Obj)) (s : Shared) (Q E : Value → Shared → Prop), dp' ≤ dp → un' ≤ un →
    Below A₀ base outer h₀ → Fr h₀ L s.heap m → (hd.heap_1 w.params).In h₀ → News h₀ L s.heap ((99, t9) :: rest) → Top topProg loose mean mg mb h₀ → cs.kind = .function →
    CodeHd base 103 99 → (∀ p ∈ rest, p.1 ≠ 99) → 103 < L → T99 t9 → AllBare s.gens →
    (∀ r add t9' s', s'.os = s.os → Fr h₀ L s'.heap m → News h₀ L s'.heap ((99, t9') :: (add ++ rest)) → (∀ p ∈ add, ∀ q ∈ rest, q.1 < p.1) → (∀ p ∈ add, (99 : Addr) < p.1) → T99 t9' → AllBare s'.gens → Res add r → Q r s') →
    wpAny (model PySem.Challenge.rw_ij0118_01.row.prog w) (ktrTop dp' un' gd cn cs L a ccd cl outer) (call (.ref f) vs) Q E s
inductive InvTs (s : Shared) (gg : Heap) (Lf lr qa : Addr) (ts ps : List Str) (tp tq : Tok) (rest : List (Addr × Obj)) (n : Nat) (s' : Shared) : Prop
  | mk : ∀ (m9 : Str → Option Value) (t9 : Obj) (rv : List Value) (e : Nat) (ti tn : Tok) (junk : List (Addr × Obj)) (k : Nat), (s'.os = s.os) → (n = ts.length - k) → (k ≤ ts.length) → (Fr gg Lf s'.heap m9) → (News gg Lf s'.heap ((99, t9) :: (lr, listOf rv.toArray e) :: (qa, bndO lr) :: (junk ++ rest))) → (T99 t9) → (AllBare s'.gens) → (StrsAre rv (ps.take k)) → (m9 (Str.ofString "pat") = some (.str (catS ts) tp)) → (m9 (Str.ofString "QUESTION_MARK") = some (.str (Str.ofString ".") tq)) → (m9 (Str.ofString "add") = some (.ref qa)) → (m9 (Str.ofString "res") = some (.ref lr)) → (m9 (Str.ofString "i") = some (.int (offs ts k) ti)) → (m9 (Str.ofString "n") = some (.int ((catS ts).length : Nat) tn)) → ((∀ p ∈ junk, @LT.lt Nat _ qa p.1)) → InvTs s gg Lf lr qa ts ps tp tq rest n s'
/-- the list of the parts -/
inductive ResTr (ps : List Str) (add : List (Addr × Obj)) (r : Value) : Prop
  | mk : ∀ lr vs e more, (r = .ref lr) → (add = (lr, listOf vs.toArray e) :: more) → (StrsAre vs ps) → ResTr ps add r




theorem catS_le : ∀ (is : List Nat), (∀ i ∈ is, i < 11) → (catS (is.map TX)).length ≤ 6 * is.length
  | [], _ => by simp [catS, Str.length]
  | i :: r, h => by
    have h1 := catS_le r fun j hj => h j (.tail _ hj)
    have h2 := (TX_len i (h i (.head _))).2
    show (TX i ++ catS (r.map TX)).length ≤ _
    rw [len_app, List.length_cons]
    omega
theorem translate_spec {w loose mean mg mb} (is : List Nat) (his : ∀ i ∈ is, i < 11) (hlen : is.length ≤ 4) (vS : Value) (tp tq : Tok) :
   TTs w loose mean mg mb 340 40 104 [.str (catS (is.map TX)) tp, vS, .str (Str.ofString ".") tq] (ResTr (is.map PT)) := by
  intro dp un gd cn cs a ccd cl outer A₀ base h₀ L m t9 rest s Q E hdp hun B F X N T hk cd9 hne hL ok9 hgs hret
  refine around_le (A' := ktrTop 340 40 gd cn cs L a ccd cl outer) rfl hdp rfl rfl hun ?_
  obtain ⟨k, nm, g, c, mo⟩ := cs
  subst hk
  obtain ⟨ts, hts⟩ : ∃ ts, ts = is.map TX := ⟨_, rfl⟩
  obtain ⟨ps, hps⟩ : ∃ ps, ps = is.map PT := ⟨_, rfl⟩
  rw [← hts]
  rw [← hps] at hret
  have hlt : ts.length = is.length := by rw [hts, List.length_map]
  have hPl : (catS ts).length ≤ 24 := by have := catS_le is his; rw [← hts] at this; omega
  have hP9 : (catS ts).length < 900 := Nat.lt_of_le_of_lt hPl (by decide)
  have hP1 : (catS ts).length ≤ 1000 := Nat.le_trans hPl (by decide)
  walk1
  have hLL := frame_lt (h₀ := h₀) (L := L) (m := m) (by assumption) (by assumption)
  (repeat' (first | (k_unfold; (try dsimp only)) | (first | with_reducible ((k_here; (with_reducible show wpAny _ _ (getAttr (Value.ref _) (PySem.Str.ofString "append") _) _ _ _); k_dflt (refine' getAttr_append (by k_asm) (by k_asm) (by k_mem) ?_); intro _ _ _ _ lb; (try k_lt lb); (try k_sweep)); (try (revert lb; intro _))) | ((k_here; (with_reducible show wpAny _ _ (getAttr (Value.ref _) (PySem.Str.ofString "append") _) _ _ _); k_dflt (refine' getAttr_append (by k_asm) (by k_asm) (by k_mem) ?_); intro _ _ _ _ lb; (try k_lt lb); (try k_sweep)); (try (revert lb; intro _)))) | ((fail_if_success (with_reducible show wpAny _ _ (exec (Stmt.While _ _ _ _) _) _ _ _)); (fail_if_success (with_reducible show wpAny _ _ (execs (Stmt.Assign [PySem.Expr.Name (PySem.Str.ofString "c") _] _ _ :: _) _) _ _ _)); (fail_if_success (with_reducible show UnrEnd _ _ _ _ _ _ _)); (fail_if_success (with_reducible show _ = _ ∧ _)); walk1) | ((fail_if_success (with_reducible show wpAny _ _ (exec (Stmt.While _ _ _ _) _) _ _ _)); (fail_if_success (with_reducible show wpAny _ _ (execs (Stmt.Assign [PySem.Expr.Name (PySem.Str.ofString "c") _] _ _ :: _) _) _ _ _)); (fail_if_success (with_reducible show UnrEnd _ _ _ _ _ _ _)); (fail_if_success (with_reducible show _ = _ ∧ _)); dsimp only; walk1) | (leave1; walk_say "STEP leave1"; try dsimp only) | fail "no step"))
  rename_i gg Lf _ FG BG XG TG lr _ l1 _ _ qa _ l2 _ tA _ l3 _ _ _ F0 N0
  have cdg : CodeHd gg 103 99 := codeHd_of_K XG (by rfl)
  have hlq : @LT.lt Nat _ lr qa := l2.1
  have h99 : @LT.lt Nat _ 99 lr := l1.1
  refine While_G (InvTs s gg Lf lr qa ts ps tp tq rest) (n₀ := ts.length) ?_ ?_ ?_
  · obtain ⟨oT, N1⟩ : ∃ oT, News gg Lf _ ((tA, oT) :: (qa, bndO lr) :: (lr, listOf #[] 0) :: (99, t9) :: rest) := ⟨_, N0⟩
    refine ⟨_, t9, [], 0, _, _, [(tA, oT)], 0, rfl, (Nat.sub_zero _).symm, Nat.zero_le _, F0, news_perm N1 ?_, ok9, hgs, .nil, rfl, rfl, rfl, rfl, rfl, rfl, fun p hp => ?_⟩
    · k_slotset
    · rw [List.mem_singleton.mp hp]; exact l3.1
  · rintro n s' ⟨m9, t9', rv, e, ti, tn, junk, k, hos, rfl, hk, F9, N9, ok9', hg', hrv, e1, e2, e3, e4, e5, e6, hj⟩
    have hall2 : ∀ p ∈ junk ++ rest, p.1 ≠ lr := by
      intro p hp
      rcases List.mem_append.mp hp with hp | hp
      · exact Nat.ne_of_gt (Nat.lt_trans hlq (hj p hp))
      · exact Nat.ne_of_lt (allLt_all l1.2 p hp)
    have hall99 : ∀ p ∈ junk ++ rest, p.1 ≠ 99 := by
      intro p hp
      rcases List.mem_append.mp hp with hp | hp
      · exact Nat.ne_of_gt (Nat.lt_trans h99 (Nat.lt_trans hlq (hj p hp)))
      · exact hne p hp
    have hrl2 : rv.toArray.size ≤ sizeLine := by
      have := hrv.len_eq
      rw [sizeLine_eq, List.size_toArray, this, List.length_take, hps, List.length_map]; omega
    rcases Nat.lt_or_ge k ts.length with hlt2 | hge
    · obtain ⟨i, hi⟩ : ∃ i, is[k]? = some i := ⟨is[k]'(by omega), List.getElem?_eq_getElem (by omega)⟩
      have ht : ts[k]? = some (TX i) := by rw [hts, List.getElem?_map, hi]; rfl
      have hp : ps[k]? = some (PT i) := by rw [hps, List.getElem?_map, hi]; rfl
      have hi11 := his i (List.mem_of_getElem? hi)
      obtain ⟨ho1, ho0⟩ := offs_le ht
      have htl := TX_len i hi11
      have hbr : offs ts k < (catS ts).length := by omega
      (repeat' (first | (k_unfold; (try dsimp only)) | (first | with_reducible ((k_here; (with_reducible show wpAny _ _ (getAttr (Value.ref _) (PySem.Str.ofString "append") _) _ _ _); k_dflt (refine' getAttr_append (by k_asm) (by k_asm) (by k_mem) ?_); intro _ _ _ _ lb; (try k_lt lb); (try k_sweep)); (try (revert lb; intro _))) | ((k_here; (with_reducible show wpAny _ _ (getAttr (Value.ref _) (PySem.Str.ofString "append") _) _ _ _); k_dflt (refine' getAttr_append (by k_asm) (by k_asm) (by k_mem) ?_); intro _ _ _ _ lb; (try k_lt lb); (try k_sweep)); (try (revert lb; intro _)))) | ((fail_if_success (with_reducible show wpAny _ _ (exec (Stmt.While _ _ _ _) _) _ _ _)); (fail_if_success (with_reducible show wpAny _ _ (execs (Stmt.Assign [PySem.Expr.Name (PySem.Str.ofString "c") _] _ _ :: _) _) _ _ _)); (fail_if_success (with_reducible show UnrEnd _ _ _ _ _ _ _)); (fail_if_success (with_reducible show _ = _ ∧ _)); walk1) | ((fail_if_success (with_reducible show wpAny _ _ (exec (Stmt.While _ _ _ _) _) _ _ _)); (fail_if_success (with_reducible show wpAny _ _ (execs (Stmt.Assign [PySem.Expr.Name (PySem.Str.ofString "c") _] _ _ :: _) _) _ _ _)); (fail_if_success (with_reducible show UnrEnd _ _ _ _ _ _ _)); (fail_if_success (with_reducible show _ = _ ∧ _)); dsimp only; walk1) | (leave1; walk_say "STEP leave1"; try dsimp only) | fail "no step"))
      refine wpAny_mono (show wpAny _ _ (execs (trTurn w.params) (trEnv w.params Lf)) _ _ _ from turn_item i hi11 (by passes_own) rfl (show (341 : Nat) < 900 by decide) (by k_asm) (by k_asm) XG TG cdg hall2 hall99 hlq h99 hrl2 ok9' (by exact hg') ht hP1 hP9 e1 e5 e6 e3 e2
        (fun s9 m9 news9 t9 Q9 F9 N9 h9 => esc_c t9 _ _ _ _ _ _ _ _ _ _ _ _ _ _ _ _ _ _ (show 341 ≤ 360 by decide) (show 43 ≤ 60 by decide) (by k_asm) F9 XG N9 TG rfl trivial (fun r add h' tk' F' N' _ hr => ?ec))
        (fun s9 m9 news9 t9 Q9 F9 N9 h9 => esc_d t9 _ _ _ _ _ _ _ _ _ _ _ _ _ _ _ _ _ _ (show 341 ≤ 360 by decide) (show 43 ≤ 60 by decide) (by k_asm) F9 XG N9 TG rfl trivial (fun r add h' tk' F' N' _ hr => ?ed))) ?_ (fun _ _ e => e)
      case ec => obtain ⟨t', rfl, rfl⟩ := hr; exact h9 _ _ _ F' N'
      case ed => obtain ⟨t', rfl, rfl⟩ := hr; exact h9 _ _ _ F' N'
      rintro f s2 ⟨rfl, m2, t92, t2, ti2, junk2, hos2, F2, N2, ok2, G2, hj2, hi2, hm2⟩
      refine ⟨rfl, ts.length - (k + 1), Nat.sub_lt_sub_left hlt2 (Nat.lt_succ_self k), m2, t92, rv ++ [.str (PT i) t2], e + 1, ti2, tn, junk2 ++ junk, k + 1, hos2.trans hos, rfl, hlt2, F2, ?_, ok2, G2, ?_, ?_, ?_, ?_, ?_, hi2, ?_, ?_⟩
      · rw [List.append_assoc]; exact N2
      · rw [List.take_add_one, hp]; exact hrv.append' (.cons _ _ .nil)
      · exact (hm2 _ (by decide) (by decide) (by decide) (by decide) (by decide) (by decide) (by decide)).trans e1
      · exact (hm2 _ (by decide) (by decide) (by decide) (by decide) (by decide) (by decide) (by decide)).trans e2
      · exact (hm2 _ (by decide) (by decide) (by decide) (by decide) (by decide) (by decide) (by decide)).trans e3
      · exact (hm2 _ (by decide) (by decide) (by decide) (by decide) (by decide) (by decide) (by decide)).trans e4
      · exact (hm2 _ (by decide) (by decide) (by decide) (by decide) (by decide) (by decide) (by decide)).trans e6
      · intro p hp
        rcases List.mem_append.mp hp with hp | hp
        · exact hj2 p hp
        · exact hj p hp
    · have hkk : k = ts.length := Nat.le_antisymm (by assumption) (by omega)
      subst hkk
      have hbr : offs ts ts.length = (catS ts).length := offs_all ts
      rw [hbr] at e5
      (repeat' (first | (k_unfold; (try dsimp only)) | (first | with_reducible ((k_here; (with_reducible show wpAny _ _ (getAttr (Value.ref _) (PySem.Str.ofString "append") _) _ _ _); k_dflt (refine' getAttr_append (by k_asm) (by k_asm) (by k_mem) ?_); intro _ _ _ _ lb; (try k_lt lb); (try k_sweep)); (try (revert lb; intro _))) | ((k_here; (with_reducible show wpAny _ _ (getAttr (Value.ref _) (PySem.Str.ofString "append") _) _ _ _); k_dflt (refine' getAttr_append (by k_asm) (by k_asm) (by k_mem) ?_); intro _ _ _ _ lb; (try k_lt lb); (try k_sweep)); (try (revert lb; intro _)))) | ((fail_if_success (with_reducible show wpAny _ _ (exec (Stmt.While _ _ _ _) _) _ _ _)); (fail_if_success (with_reducible show wpAny _ _ (execs (Stmt.Assign [PySem.Expr.Name (PySem.Str.ofString "c") _] _ _ :: _) _) _ _ _)); (fail_if_success (with_reducible show UnrEnd _ _ _ _ _ _ _)); (fail_if_success (with_reducible show _ = _ ∧ _)); walk1) | ((fail_if_success (with_reducible show wpAny _ _ (exec (Stmt.While _ _ _ _) _) _ _ _)); (fail_if_success (with_reducible show wpAny _ _ (execs (Stmt.Assign [PySem.Expr.Name (PySem.Str.ofString "c") _] _ _ :: _) _) _ _ _)); (fail_if_success (with_reducible show UnrEnd _ _ _ _ _ _ _)); (fail_if_success (with_reducible show _ = _ ∧ _)); dsimp only; walk1) | (leave1; walk_say "STEP leave1"; try dsimp only) | fail "no step"))
      all_goals (try (exfalso; apply absurd rfl (by assumption)))
      have hq : ps.take ts.length = ps := by rw [hlt, ← List.length_map (as := is) (f := PT), ← hps, List.take_length]
      rw [hq] at hrv
      refine hret _ ((lr, listOf rv.toArray e) :: (qa, bndO lr) :: junk) t9' s' hos (by k_asm) (news_perm (by k_asm) ?_) ?_ ?_ ok9' hg' ⟨lr, rv, e, (qa, bndO lr) :: junk, rfl, rfl, hrv⟩
      · k_slotset
      · intro p hp q hq
        have hqa : ∀ q ∈ rest, @LT.lt Nat _ q.1 lr := fun q hq => allLt_all l1.2 q hq
        rcases List.mem_cons.mp hp with rfl | hp
        · exact hqa q hq
        · rcases List.mem_cons.mp hp with rfl | hp
          · exact Nat.lt_trans (hqa q hq) hlq
          · exact Nat.lt_trans (hqa q hq) (Nat.lt_trans hlq (hj p hp))
      · intro p hp
        rcases List.mem_cons.mp hp with rfl | hp
        · exact h99
        · rcases List.mem_cons.mp hp with rfl | hp
          · exact Nat.lt_trans h99 hlq
          · exact Nat.lt_trans h99 (Nat.lt_trans hlq (hj p hp))
  · passes_own

end
-- T19
section
theorem fillT19 : PySem.Challenge.rw_ij0118_01 = PySem.Challenge.rw_ij0118_01 ∧ hd.heap_1 = hd.heap_1 := by
  k_fill
  exact ⟨rfl, rfl⟩




/-- what the loop over the parts keeps -/
inductive InvJn (s : Shared) (gg : Heap) (Lf li la lr qa : Addr) (vs : List Value) (e0 : Nat) (rest : List (Addr × Obj)) (n : Nat) (s' : Shared) : Prop
  | mk : ∀ (h' : Heap) (tk : Nat) (m9 : Str → Option Value) (e : Nat) (ti tn : Tok) (k : Nat), (s' = { s with heap := h', toks := tk }) → (n = vs.length - k) → (k ≤ vs.length) → (Fr gg Lf h' m9) → (News gg Lf h' ((lr, listOf (vs.take k).toArray e) :: (qa, bndO lr) :: (li, listOf vs.toArray e0) :: rest)) → (m9 (Str.ofString "inp") = some (.ref li)) → (m9 (Str.ofString "STAR") = some (.ref la)) → (m9 (Str.ofString "add") = some (.ref qa)) → (m9 (Str.ofString "res") = some (.ref lr)) → (m9 (Str.ofString "i") = some (.int (k : Nat) ti)) → (m9 (Str.ofString "n") = some (.int (vs.length : Nat) tn)) → InvJn s gg Lf li la lr qa vs e0 rest n s'
theorem joinp_spec {w loose mean mg mb} (vs : List Value) (ps : List Str) (hvs : StrsAre vs ps) (hlen : vs.length ≤ 4) (hzz : (catS ps).length ≤ 1000) (li la : Addr) :
   Spec w loose mean mg mb 345 45 111 (fun news => ∃ e0, (li, listOf vs.toArray e0) ∈ news) [.ref li, .ref la] (fun add r => ∃ t, r = .str (Str.empty ++ Str.ofString "(?s:" ++ catS ps ++ Str.ofString ")\\Z") t) := by
  intro dp un gd cn cs a ccd cl outer A₀ base h₀ L m news s Q E hdp hun B F X N0 T hk pre hret
  obtain ⟨e0, hpre⟩ := pre
  obtain ⟨rest, hrest⟩ : ∃ rest, rest = news := ⟨_, rfl⟩
  have N : News h₀ L s.heap ((li, listOf vs.toArray e0) :: rest) := fun p hp => N0 p (by rcases List.mem_cons.mp hp with rfl | hp; exact hpre; exact hrest ▸ hp)
  refine around_le (A' := ktrTop 345 45 gd cn cs L a ccd cl outer) rfl hdp rfl rfl hun ?_
  obtain ⟨k, nm, g, c, mo⟩ := cs
  subst hk
  clear N0
  walk1
  have hLL := frame_lt (h₀ := h₀) (L := L) (m := m) (by assumption) (by assumption)
  (repeat' (first | (k_unfold; (try dsimp only)) | ((with_reducible show wpAny _ _ (compareOp CmpOp.IsNot (Value.str _ _) (Value.ref _)) _ _ _); (first | with_reducible ((k_here; k_dflt (refine' wpAny_isNot_other rfl (by intro e; cases e) ?_))) | ((k_here; k_dflt (refine' wpAny_isNot_other rfl (by intro e; cases e) ?_))))) | ((with_reducible show wpAny _ _ (call (Value.builtin "str.join") _) _ _ _); (first | with_reducible ((k_here; k_dflt (refine' join_led (by k_asm) (by k_mem) (by assumption) (by assumption) (by omega) ?_); intro _ _)) | ((k_here; k_dflt (refine' join_led (by k_asm) (by k_mem) (by assumption) (by assumption) (by omega) ?_); intro _ _)))) | ((with_reducible show wpAny _ _ (loadName _ _) _ _ _); (first | with_reducible ((k_here; k_dflt (refine' loadN (by k_asm) (by assumption) ?_))) | ((k_here; k_dflt (refine' loadN (by k_asm) (by assumption) ?_))))) | (first | with_reducible ((k_here; (with_reducible show wpAny _ _ (subscriptTail _ _ (Value.ref _) (Value.int _ _)) _ _ _); k_dflt (refine item_led (by k_asm) (by k_mem) (by assumption) (by omega) ?_))) | ((k_here; (with_reducible show wpAny _ _ (subscriptTail _ _ (Value.ref _) (Value.int _ _)) _ _ _); k_dflt (refine item_led (by k_asm) (by k_mem) (by assumption) (by omega) ?_)))) | ((with_reducible show wpAny _ _ (call (Value.builtin "len") _) _ _ _); (first | with_reducible ((k_here; (with_reducible show wpAny _ _ (call (Value.builtin _) [Value.ref _]) _ _ _); k_dflt (refine' len_led (by k_asm) (by k_mem) (by omega) ?_))) | ((k_here; (with_reducible show wpAny _ _ (call (Value.builtin _) [Value.ref _]) _ _ _); k_dflt (refine' len_led (by k_asm) (by k_mem) (by omega) ?_))))) | (first | with_reducible ((k_here; (with_reducible show wpAny _ _ (call (Value.ref 97) [_]) _ _ _); k_dflt (refine' EscK.use (by assumption) (by k_asm) (by k_asm) ?_); intro _ _ _ _ _; (try k_sweep))) | ((k_here; (with_reducible show wpAny _ _ (call (Value.ref 97) [_]) _ _ _); k_dflt (refine' EscK.use (by assumption) (by k_asm) (by k_asm) ?_); intro _ _ _ _ _; (try k_sweep)))) | (first | with_reducible ((k_here; (with_reducible show wpAny _ _ (call (Value.ref _) [_]) _ _ _); k_dflt (refine' call_bnd (by k_asm) (by k_asm) (by k_mem) (by k_upd) ?_ (by first | assumption | omega | size_fits)); intro _ _ _; (try k_sweep))) | ((k_here; (with_reducible show wpAny _ _ (call (Value.ref _) [_]) _ _ _); k_dflt (refine' call_bnd (by k_asm) (by k_asm) (by k_mem) (by k_upd) ?_ (by first | assumption | omega | size_fits)); intro _ _ _; (try k_sweep)))) | (first | with_reducible (((with_reducible show StandsB _ _ _ ∧ _); k_dflt (refine ⟨standsB_of (by k_asm) (by k_mem), ?_⟩); (try dsimp only [List.nil_append, List.cons_append]))) | (((with_reducible show StandsB _ _ _ ∧ _); k_dflt (refine ⟨standsB_of (by k_asm) (by k_mem), ?_⟩); (try dsimp only [List.nil_append, List.cons_append])))) | (first | with_reducible ((k_here; (with_reducible show wpAny _ _ (callWith _ (Value.ref _) _ (backTo _ (starEach (_ :: _) _)) []) _ _ _); k_dflt (refine' callWith_bnd (by k_asm) (by k_mem) ?_; k_whole))) | ((k_here; (with_reducible show wpAny _ _ (callWith _ (Value.ref _) _ (backTo _ (starEach (_ :: _) _)) []) _ _ _); k_dflt (refine' callWith_bnd (by k_asm) (by k_mem) ?_; k_whole)))) | (first | with_reducible ((k_here; (with_reducible show wpAny _ _ (getAttr (Value.ref _) (PySem.Str.ofString "append") _) _ _ _); k_dflt (refine' getAttr_append (by k_asm) (by k_asm) (by k_mem) ?_); intro _ _ _ _ lb; (try k_lt lb); (try k_sweep)); (try (revert lb; intro _))) | ((k_here; (with_reducible show wpAny _ _ (getAttr (Value.ref _) (PySem.Str.ofString "append") _) _ _ _); k_dflt (refine' getAttr_append (by k_asm) (by k_asm) (by k_mem) ?_); intro _ _ _ _ lb; (try k_lt lb); (try k_sweep)); (try (revert lb; intro _)))) | ((fail_if_success (with_reducible show wpAny _ _ (exec (Stmt.While _ _ _ _) _) _ _ _)); (fail_if_success (with_reducible show wpAny _ _ (execs (Stmt.Assign [PySem.Expr.Name (PySem.Str.ofString "c") _] _ _ :: _) _) _ _ _)); (fail_if_success (with_reducible show UnrEnd _ _ _ _ _ _ _)); (fail_if_success (with_reducible show _ = _ ∧ _)); walk1) | ((fail_if_success (with_reducible show wpAny _ _ (exec (Stmt.While _ _ _ _) _) _ _ _)); (fail_if_success (with_reducible show wpAny _ _ (execs (Stmt.Assign [PySem.Expr.Name (PySem.Str.ofString "c") _] _ _ :: _) _) _ _ _)); (fail_if_success (with_reducible show UnrEnd _ _ _ _ _ _ _)); (fail_if_success (with_reducible show _ = _ ∧ _)); dsimp only; walk1) | (leave1; walk_say "STEP leave1"; try dsimp only) | fail "no step"))
  rename_i gg Lf _ FG BG XG TG lr _ l1 _ _ qa _ l2 _ tA _ l3 _ _ _ F0 N0
  refine While_G (InvJn s gg Lf li la lr qa vs e0 rest) (n₀ := vs.length) ?_ ?_ ?_
  · refine ⟨_, _, _, 0, _, _, 0, rfl, by omega, Nat.zero_le _, F0, news_perm N0 ?_, rfl, rfl, rfl, rfl, rfl, rfl⟩
    k_slotset
  · rintro n s' ⟨h', tk, m9, e, ti, tn, k, rfl, rfl, hk, F9, N9, e1, e2, e3, e4, e5, e6⟩
    rcases Nat.lt_or_ge k vs.length with hlt2 | hge
    · obtain ⟨p, t, hv⟩ : ∃ p t, vs[k]? = some (.str p t) := strsAt hvs hlt2
      have hbr : (k : Int) < (vs.length : Nat) := by omega
      have hts : (vs.take k).length ≤ 1000 := by rw [List.length_take]; omega
      (repeat' (first | (k_unfold; (try dsimp only)) | ((with_reducible show wpAny _ _ (compareOp CmpOp.IsNot (Value.str _ _) (Value.ref _)) _ _ _); (first | with_reducible ((k_here; k_dflt (refine' wpAny_isNot_other rfl (by intro e; cases e) ?_))) | ((k_here; k_dflt (refine' wpAny_isNot_other rfl (by intro e; cases e) ?_))))) | ((with_reducible show wpAny _ _ (call (Value.builtin "str.join") _) _ _ _); (first | with_reducible ((k_here; k_dflt (refine' join_led (by k_asm) (by k_mem) (by assumption) (by assumption) (by omega) ?_); intro _ _)) | ((k_here; k_dflt (refine' join_led (by k_asm) (by k_mem) (by assumption) (by assumption) (by omega) ?_); intro _ _)))) | ((with_reducible show wpAny _ _ (loadName _ _) _ _ _); (first | with_reducible ((k_here; k_dflt (refine' loadN (by k_asm) (by assumption) ?_))) | ((k_here; k_dflt (refine' loadN (by k_asm) (by assumption) ?_))))) | (first | with_reducible ((k_here; (with_reducible show wpAny _ _ (subscriptTail _ _ (Value.ref _) (Value.int _ _)) _ _ _); k_dflt (refine item_led (by k_asm) (by k_mem) (by assumption) (by omega) ?_))) | ((k_here; (with_reducible show wpAny _ _ (subscriptTail _ _ (Value.ref _) (Value.int _ _)) _ _ _); k_dflt (refine item_led (by k_asm) (by k_mem) (by assumption) (by omega) ?_)))) | ((with_reducible show wpAny _ _ (call (Value.builtin "len") _) _ _ _); (first | with_reducible ((k_here; (with_reducible show wpAny _ _ (call (Value.builtin _) [Value.ref _]) _ _ _); k_dflt (refine' len_led (by k_asm) (by k_mem) (by omega) ?_))) | ((k_here; (with_reducible show wpAny _ _ (call (Value.builtin _) [Value.ref _]) _ _ _); k_dflt (refine' len_led (by k_asm) (by k_mem) (by omega) ?_))))) | (first | with_reducible ((k_here; (with_reducible show wpAny _ _ (call (Value.ref 97) [_]) _ _ _); k_dflt (refine' EscK.use (by assumption) (by k_asm) (by k_asm) ?_); intro _ _ _ _ _; (try k_sweep))) | ((k_here; (with_reducible show wpAny _ _ (call (Value.ref 97) [_]) _ _ _); k_dflt (refine' EscK.use (by assumption) (by k_asm) (by k_asm) ?_); intro _ _ _ _ _; (try k_sweep)))) | (first | with_reducible ((k_here; (with_reducible show wpAny _ _ (call (Value.ref _) [_]) _ _ _); k_dflt (refine' call_bnd (by k_asm) (by k_asm) (by k_mem) (by k_upd) ?_ (by first | assumption | omega | size_fits)); intro _ _ _; (try k_sweep))) | ((k_here; (with_reducible show wpAny _ _ (call (Value.ref _) [_]) _ _ _); k_dflt (refine' call_bnd (by k_asm) (by k_asm) (by k_mem) (by k_upd) ?_ (by first | assumption | omega | size_fits)); intro _ _ _; (try k_sweep)))) | (first | with_reducible (((with_reducible show StandsB _ _ _ ∧ _); k_dflt (refine ⟨standsB_of (by k_asm) (by k_mem), ?_⟩); (try dsimp only [List.nil_append, List.cons_append]))) | (((with_reducible show StandsB _ _ _ ∧ _); k_dflt (refine ⟨standsB_of (by k_asm) (by k_mem), ?_⟩); (try dsimp only [List.nil_append, List.cons_append])))) | (first | with_reducible ((k_here; (with_reducible show wpAny _ _ (callWith _ (Value.ref _) _ (backTo _ (starEach (_ :: _) _)) []) _ _ _); k_dflt (refine' callWith_bnd (by k_asm) (by k_mem) ?_; k_whole))) | ((k_here; (with_reducible show wpAny _ _ (callWith _ (Value.ref _) _ (backTo _ (starEach (_ :: _) _)) []) _ _ _); k_dflt (refine' callWith_bnd (by k_asm) (by k_mem) ?_; k_whole)))) | (first | with_reducible ((k_here; (with_reducible show wpAny _ _ (getAttr (Value.ref _) (PySem.Str.ofString "append") _) _ _ _); k_dflt (refine' getAttr_append (by k_asm) (by k_asm) (by k_mem) ?_); intro _ _ _ _ lb; (try k_lt lb); (try k_sweep)); (try (revert lb; intro _))) | ((k_here; (with_reducible show wpAny _ _ (getAttr (Value.ref _) (PySem.Str.ofString "append") _) _ _ _); k_dflt (refine' getAttr_append (by k_asm) (by k_asm) (by k_mem) ?_); intro _ _ _ _ lb; (try k_lt lb); (try k_sweep)); (try (revert lb; intro _)))) | ((fail_if_success (with_reducible show wpAny _ _ (exec (Stmt.While _ _ _ _) _) _ _ _)); (fail_if_success (with_reducible show wpAny _ _ (execs (Stmt.Assign [PySem.Expr.Name (PySem.Str.ofString "c") _] _ _ :: _) _) _ _ _)); (fail_if_success (with_reducible show UnrEnd _ _ _ _ _ _ _)); (fail_if_success (with_reducible show _ = _ ∧ _)); walk1) | ((fail_if_success (with_reducible show wpAny _ _ (exec (Stmt.While _ _ _ _) _) _ _ _)); (fail_if_success (with_reducible show wpAny _ _ (execs (Stmt.Assign [PySem.Expr.Name (PySem.Str.ofString "c") _] _ _ :: _) _) _ _ _)); (fail_if_success (with_reducible show UnrEnd _ _ _ _ _ _ _)); (fail_if_success (with_reducible show _ = _ ∧ _)); dsimp only; walk1) | (leave1; walk_say "STEP leave1"; try dsimp only) | fail "no step"))
      rename Fr gg Lf _ _ => hF9
      refine ⟨rfl, vs.length - (k + 1), Nat.sub_lt_sub_left hlt2 (Nat.lt_succ_self k), _, _, _, e + 1, _, _, k + 1, rfl, rfl, hlt2, hF9, ?_, e1, e2, e3, e4, rfl, e6⟩
      rename News gg Lf _ _ => hN9
      rw [List.push_toArray] at hN9
      rw [List.take_add_one, hv]
      exact hN9
    · have hkk : k = vs.length := by omega
      subst hkk
      (repeat' (first | (k_unfold; (try dsimp only)) | ((with_reducible show wpAny _ _ (compareOp CmpOp.IsNot (Value.str _ _) (Value.ref _)) _ _ _); (first | with_reducible ((k_here; k_dflt (refine' wpAny_isNot_other rfl (by intro e; cases e) ?_))) | ((k_here; k_dflt (refine' wpAny_isNot_other rfl (by intro e; cases e) ?_))))) | ((with_reducible show wpAny _ _ (call (Value.builtin "str.join") _) _ _ _); (first | with_reducible ((k_here; k_dflt (refine' join_led (by k_asm) (by k_mem) (by assumption) (by assumption) (by omega) ?_); intro _ _)) | ((k_here; k_dflt (refine' join_led (by k_asm) (by k_mem) (by assumption) (by assumption) (by omega) ?_); intro _ _)))) | ((with_reducible show wpAny _ _ (loadName _ _) _ _ _); (first | with_reducible ((k_here; k_dflt (refine' loadN (by k_asm) (by assumption) ?_))) | ((k_here; k_dflt (refine' loadN (by k_asm) (by assumption) ?_))))) | (first | with_reducible ((k_here; (with_reducible show wpAny _ _ (subscriptTail _ _ (Value.ref _) (Value.int _ _)) _ _ _); k_dflt (refine item_led (by k_asm) (by k_mem) (by assumption) (by omega) ?_))) | ((k_here; (with_reducible show wpAny _ _ (subscriptTail _ _ (Value.ref _) (Value.int _ _)) _ _ _); k_dflt (refine item_led (by k_asm) (by k_mem) (by assumption) (by omega) ?_)))) | ((with_reducible show wpAny _ _ (call (Value.builtin "len") _) _ _ _); (first | with_reducible ((k_here; (with_reducible show wpAny _ _ (call (Value.builtin _) [Value.ref _]) _ _ _); k_dflt (refine' len_led (by k_asm) (by k_mem) (by omega) ?_))) | ((k_here; (with_reducible show wpAny _ _ (call (Value.builtin _) [Value.ref _]) _ _ _); k_dflt (refine' len_led (by k_asm) (by k_mem) (by omega) ?_))))) | (first | with_reducible ((k_here; (with_reducible show wpAny _ _ (call (Value.ref 97) [_]) _ _ _); k_dflt (refine' EscK.use (by assumption) (by k_asm) (by k_asm) ?_); intro _ _ _ _ _; (try k_sweep))) | ((k_here; (with_reducible show wpAny _ _ (call (Value.ref 97) [_]) _ _ _); k_dflt (refine' EscK.use (by assumption) (by k_asm) (by k_asm) ?_); intro _ _ _ _ _; (try k_sweep)))) | (first | with_reducible ((k_here; (with_reducible show wpAny _ _ (call (Value.ref _) [_]) _ _ _); k_dflt (refine' call_bnd (by k_asm) (by k_asm) (by k_mem) (by k_upd) ?_ (by first | assumption | omega | size_fits)); intro _ _ _; (try k_sweep))) | ((k_here; (with_reducible show wpAny _ _ (call (Value.ref _) [_]) _ _ _); k_dflt (refine' call_bnd (by k_asm) (by k_asm) (by k_mem) (by k_upd) ?_ (by first | assumption | omega | size_fits)); intro _ _ _; (try k_sweep)))) | (first | with_reducible (((with_reducible show StandsB _ _ _ ∧ _); k_dflt (refine ⟨standsB_of (by k_asm) (by k_mem), ?_⟩); (try dsimp only [List.nil_append, List.cons_append]))) | (((with_reducible show StandsB _ _ _ ∧ _); k_dflt (refine ⟨standsB_of (by k_asm) (by k_mem), ?_⟩); (try dsimp only [List.nil_append, List.cons_append])))) | (first | with_reducible ((k_here; (with_reducible show wpAny _ _ (callWith _ (Value.ref _) _ (backTo _ (starEach (_ :: _) _)) []) _ _ _); k_dflt (refine' callWith_bnd (by k_asm) (by k_mem) ?_; k_whole))) | ((k_here; (with_reducible show wpAny _ _ (callWith _ (Value.ref _) _ (backTo _ (starEach (_ :: _) _)) []) _ _ _); k_dflt (refine' callWith_bnd (by k_asm) (by k_mem) ?_; k_whole)))) | (first | with_reducible ((k_here; (with_reducible show wpAny _ _ (getAttr (Value.ref _) (PySem.Str.ofString "append") _) _ _ _); k_dflt (refine' getAttr_append (by k_asm) (by k_asm) (by k_mem) ?_); intro _ _ _ _ lb; (try k_lt lb); (try k_sweep)); (try (revert lb; intro _))) | ((k_here; (with_reducible show wpAny _ _ (getAttr (Value.ref _) (PySem.Str.ofString "append") _) _ _ _); k_dflt (refine' getAttr_append (by k_asm) (by k_asm) (by k_mem) ?_); intro _ _ _ _ lb; (try k_lt lb); (try k_sweep)); (try (revert lb; intro _)))) | ((fail_if_success (with_reducible show wpAny _ _ (exec (Stmt.While _ _ _ _) _) _ _ _)); (fail_if_success (with_reducible show wpAny _ _ (execs (Stmt.Assign [PySem.Expr.Name (PySem.Str.ofString "c") _] _ _ :: _) _) _ _ _)); (fail_if_success (with_reducible show UnrEnd _ _ _ _ _ _ _)); (fail_if_success (with_reducible show _ = _ ∧ _)); walk1) | ((fail_if_success (with_reducible show wpAny _ _ (exec (Stmt.While _ _ _ _) _) _ _ _)); (fail_if_success (with_reducible show wpAny _ _ (execs (Stmt.Assign [PySem.Expr.Name (PySem.Str.ofString "c") _] _ _ :: _) _) _ _ _)); (fail_if_success (with_reducible show UnrEnd _ _ _ _ _ _ _)); (fail_if_success (with_reducible show _ = _ ∧ _)); dsimp only; walk1) | (leave1; walk_say "STEP leave1"; try dsimp only) | fail "no step"))
      rw [List.take_length] at N9
      refine While_G (fun _ s1 => s1 = { s with heap := h', toks := tk }) (n₀ := 0) rfl ?_ (by passes_own)
      rintro n _ rfl
      (repeat' (first | (k_unfold; (try dsimp only)) | ((with_reducible show wpAny _ _ (compareOp CmpOp.IsNot (Value.str _ _) (Value.ref _)) _ _ _); (first | with_reducible ((k_here; k_dflt (refine' wpAny_isNot_other rfl (by intro e; cases e) ?_))) | ((k_here; k_dflt (refine' wpAny_isNot_other rfl (by intro e; cases e) ?_))))) | ((with_reducible show wpAny _ _ (call (Value.builtin "str.join") _) _ _ _); (first | with_reducible ((k_here; k_dflt (refine' join_led (by k_asm) (by k_mem) (by assumption) (by assumption) (by omega) ?_); intro _ _)) | ((k_here; k_dflt (refine' join_led (by k_asm) (by k_mem) (by assumption) (by assumption) (by omega) ?_); intro _ _)))) | ((with_reducible show wpAny _ _ (loadName _ _) _ _ _); (first | with_reducible ((k_here; k_dflt (refine' loadN (by k_asm) (by assumption) ?_))) | ((k_here; k_dflt (refine' loadN (by k_asm) (by assumption) ?_))))) | (first | with_reducible ((k_here; (with_reducible show wpAny _ _ (subscriptTail _ _ (Value.ref _) (Value.int _ _)) _ _ _); k_dflt (refine item_led (by k_asm) (by k_mem) (by assumption) (by omega) ?_))) | ((k_here; (with_reducible show wpAny _ _ (subscriptTail _ _ (Value.ref _) (Value.int _ _)) _ _ _); k_dflt (refine item_led (by k_asm) (by k_mem) (by assumption) (by omega) ?_)))) | ((with_reducible show wpAny _ _ (call (Value.builtin "len") _) _ _ _); (first | with_reducible ((k_here; (with_reducible show wpAny _ _ (call (Value.builtin _) [Value.ref _]) _ _ _); k_dflt (refine' len_led (by k_asm) (by k_mem) (by omega) ?_))) | ((k_here; (with_reducible show wpAny _ _ (call (Value.builtin _) [Value.ref _]) _ _ _); k_dflt (refine' len_led (by k_asm) (by k_mem) (by omega) ?_))))) | (first | with_reducible ((k_here; (with_reducible show wpAny _ _ (call (Value.ref 97) [_]) _ _ _); k_dflt (refine' EscK.use (by assumption) (by k_asm) (by k_asm) ?_); intro _ _ _ _ _; (try k_sweep))) | ((k_here; (with_reducible show wpAny _ _ (call (Value.ref 97) [_]) _ _ _); k_dflt (refine' EscK.use (by assumption) (by k_asm) (by k_asm) ?_); intro _ _ _ _ _; (try k_sweep)))) | (first | with_reducible ((k_here; (with_reducible show wpAny _ _ (call (Value.ref _) [_]) _ _ _); k_dflt (refine' call_bnd (by k_asm) (by k_asm) (by k_mem) (by k_upd) ?_ (by first | assumption | omega | size_fits)); intro _ _ _; (try k_sweep))) | ((k_here; (with_reducible show wpAny _ _ (call (Value.ref _) [_]) _ _ _); k_dflt (refine' call_bnd (by k_asm) (by k_asm) (by k_mem) (by k_upd) ?_ (by first | assumption | omega | size_fits)); intro _ _ _; (try k_sweep)))) | (first | with_reducible (((with_reducible show StandsB _ _ _ ∧ _); k_dflt (refine ⟨standsB_of (by k_asm) (by k_mem), ?_⟩); (try dsimp only [List.nil_append, List.cons_append]))) | (((with_reducible show StandsB _ _ _ ∧ _); k_dflt (refine ⟨standsB_of (by k_asm) (by k_mem), ?_⟩); (try dsimp only [List.nil_append, List.cons_append])))) | (first | with_reducible ((k_here; (with_reducible show wpAny _ _ (callWith _ (Value.ref _) _ (backTo _ (starEach (_ :: _) _)) []) _ _ _); k_dflt (refine' callWith_bnd (by k_asm) (by k_mem) ?_; k_whole))) | ((k_here; (with_reducible show wpAny _ _ (callWith _ (Value.ref _) _ (backTo _ (starEach (_ :: _) _)) []) _ _ _); k_dflt (refine' callWith_bnd (by k_asm) (by k_mem) ?_; k_whole)))) | (first | with_reducible ((k_here; (with_reducible show wpAny _ _ (getAttr (Value.ref _) (PySem.Str.ofString "append") _) _ _ _); k_dflt (refine' getAttr_append (by k_asm) (by k_asm) (by k_mem) ?_); intro _ _ _ _ lb; (try k_lt lb); (try k_sweep)); (try (revert lb; intro _))) | ((k_here; (with_reducible show wpAny _ _ (getAttr (Value.ref _) (PySem.Str.ofString "append") _) _ _ _); k_dflt (refine' getAttr_append (by k_asm) (by k_asm) (by k_mem) ?_); intro _ _ _ _ lb; (try k_lt lb); (try k_sweep)); (try (revert lb; intro _)))) | ((fail_if_success (with_reducible show wpAny _ _ (exec (Stmt.While _ _ _ _) _) _ _ _)); (fail_if_success (with_reducible show wpAny _ _ (execs (Stmt.Assign [PySem.Expr.Name (PySem.Str.ofString "c") _] _ _ :: _) _) _ _ _)); (fail_if_success (with_reducible show UnrEnd _ _ _ _ _ _ _)); (fail_if_success (with_reducible show _ = _ ∧ _)); walk1) | ((fail_if_success (with_reducible show wpAny _ _ (exec (Stmt.While _ _ _ _) _) _ _ _)); (fail_if_success (with_reducible show wpAny _ _ (execs (Stmt.Assign [PySem.Expr.Name (PySem.Str.ofString "c") _] _ _ :: _) _) _ _ _)); (fail_if_success (with_reducible show UnrEnd _ _ _ _ _ _ _)); (fail_if_success (with_reducible show _ = _ ∧ _)); dsimp only; walk1) | (leave1; walk_say "STEP leave1"; try dsimp only) | fail "no step"))
      all_goals (try (exfalso; apply absurd rfl (by assumption)))
      subst hrest
      refine hret _ [] _ _ (by k_asm) (news_perm (by k_asm) ?_) (fun p hp => nomatch hp) ⟨_, rfl⟩
      intro p hp
      rw [List.nil_append] at hp
      exact .tail _ (.tail _ (.tail _ hp))
  · passes_own

end
-- T20
section
theorem fillT20 : PySem.Challenge.rw_ij0118_01 = PySem.Challenge.rw_ij0118_01 ∧ hd.heap_1 = hd.heap_1 := by
  k_fill
  exact ⟨rfl, rfl⟩

theorem PT_len : ∀ i, i < 11 → (PT i).length ≤ 6 := by decide +kernel
theorem catS_leP : ∀ (is : List Nat), (∀ i ∈ is, i < 11) → (catS (is.map PT)).length ≤ 6 * is.length
  | [], _ => by simp [catS, Str.length]
  | i :: r, h => by
    have h1 := catS_leP r fun j hj => h j (.tail _ hj)
    have h2 := PT_len i (h i (.head _))
    show (PT i ++ catS (r.map PT)).length ≤ _
    rw [len_app, List.length_cons]
    omega
theorem transl_spec {w loose mean mg mb} (is : List Nat) (his : ∀ i ∈ is, i < 11) (hlen : is.length ≤ 4) (tp : Tok) :
   TTs w loose mean mg mb 330 30 85 [.str (catS (is.map TX)) tp] (fun add r => ∃ t, r = .str (Str.empty ++ Str.ofString "(?s:" ++ catS (is.map PT) ++ Str.ofString ")\\Z") t) := by
  intro dp un gd cn cs a ccd cl outer A₀ base h₀ L m t9 rest s Q E hdp hun B F X N T hk cd9 hne hL ok9 hgs hret
  refine around_le (A' := ktrTop 330 30 gd cn cs L a ccd cl outer) rfl hdp rfl rfl hun ?_
  obtain ⟨k, nm, g, c, mo⟩ := cs
  subst hk
  walk1
  have hLL := frame_lt (h₀ := h₀) (L := L) (m := m) (by assumption) (by assumption)
  (repeat' (first | (k_unfold; (try dsimp only)) | (first | with_reducible ((k_here; (with_reducible show wpAny _ _ (call (Value.type _) [] _) _ _ _); k_dflt (refine' call_obj (by k_asm) (by k_asm) ?_); intro _ _ _ _ lb; (try k_lt lb); (try k_sweep)); (try (revert lb; intro _))) | ((k_here; (with_reducible show wpAny _ _ (call (Value.type _) [] _) _ _ _); k_dflt (refine' call_obj (by k_asm) (by k_asm) ?_); intro _ _ _ _ lb; (try k_lt lb); (try k_sweep)); (try (revert lb; intro _)))) | (k_end; wrow_close) | ((fail_if_success (with_reducible show wpAny _ _ (call (Value.ref _) _) _ _ _)); walk1) | ((fail_if_success (show wpAny _ _ (call (Value.ref _) _) _ _ _)); dsimp only; walk1) | (leave1; walk_say "STEP leave1"; try dsimp only) | fail "no step"))
  rename_i gg Lf _ FG BG XG TG q _ lq _ F0 N0
  k_dflt (refine' translate_spec is his hlen _ _ _ _ _ _ _ _ _ _ _ _ _ _ _ _ _ t9 ((q, plainO) :: rest) _ _ _ (show 331 ≤ 340 by decide) (show 33 ≤ 40 by decide) (by k_asm) (by k_asm) (by k_asm) (news_perm N0 (by k_slotset)) (by k_asm) rfl (by k_asm) ?ne ?hL ok9 hgs ?_)
  case ne =>
    intro p hp
    rcases List.mem_cons.mp hp with rfl | hp
    · exact Nat.ne_of_gt lq.1
    · exact hne p hp
  case hL => exact Nat.lt_trans hL hLL
  intro r add t9' s' hos F' N' lt gt ok' G' res
  obtain ⟨lr, vs, e, more, rfl, rfl, hvs⟩ := res
  (repeat' (first | (k_unfold; (try dsimp only)) | (first | with_reducible ((k_here; (with_reducible show wpAny _ _ (call (Value.type _) [] _) _ _ _); k_dflt (refine' call_obj (by k_asm) (by k_asm) ?_); intro _ _ _ _ lb; (try k_lt lb); (try k_sweep)); (try (revert lb; intro _))) | ((k_here; (with_reducible show wpAny _ _ (call (Value.type _) [] _) _ _ _); k_dflt (refine' call_obj (by k_asm) (by k_asm) ?_); intro _ _ _ _ lb; (try k_lt lb); (try k_sweep)); (try (revert lb; intro _)))) | (k_end; wrow_close) | ((fail_if_success (with_reducible show wpAny _ _ (call (Value.ref _) _) _ _ _)); walk1) | ((fail_if_success (show wpAny _ _ (call (Value.ref _) _) _ _ _)); dsimp only; walk1) | (leave1; walk_say "STEP leave1"; try dsimp only) | fail "no step"))
  have hz : (catS (is.map PT)).length ≤ 1000 := by have := catS_leP is his; omega
  have hl4 : vs.length ≤ 4 := by have := hvs.len_eq; rw [this, List.length_map]; exact hlen
  k_dflt (refine' joinp_spec vs (is.map PT) hvs hl4 hz lr q _ _ _ _ _ _ _ _ _ _ _ _ _ _ _ _ _ _ (show 331 ≤ 345 by decide) (show 33 ≤ 45 by decide) (by k_asm) (by k_asm) (by k_asm) (by k_asm) (by k_asm) rfl ?pre ?_)
  case pre => exact ⟨e, by simp⟩
  intro r2 add2 h2 tk2 F2 N2 lt2 res2
  obtain ⟨t2, rfl⟩ := res2
  (repeat' (first | (k_unfold; (try dsimp only)) | (first | with_reducible ((k_here; (with_reducible show wpAny _ _ (call (Value.type _) [] _) _ _ _); k_dflt (refine' call_obj (by k_asm) (by k_asm) ?_); intro _ _ _ _ lb; (try k_lt lb); (try k_sweep)); (try (revert lb; intro _))) | ((k_here; (with_reducible show wpAny _ _ (call (Value.type _) [] _) _ _ _); k_dflt (refine' call_obj (by k_asm) (by k_asm) ?_); intro _ _ _ _ lb; (try k_lt lb); (try k_sweep)); (try (revert lb; intro _)))) | (k_end; wrow_close) | ((fail_if_success (with_reducible show wpAny _ _ (call (Value.ref _) _) _ _ _)); walk1) | ((fail_if_success (show wpAny _ _ (call (Value.ref _) _) _ _ _)); dsimp only; walk1) | (leave1; walk_say "STEP leave1"; try dsimp only) | fail "no step"))
  refine hret _ [] t9' _ hos (by k_asm) (news_perm (by k_asm) ?_) (fun p hp => nomatch hp) (fun p hp => nomatch hp) ok' G' ⟨_, rfl⟩
  k_slotset

end
-- T21
section
theorem fillT21 : PySem.Challenge.rw_ij0118_01 = PySem.Challenge.rw_ij0118_01 ∧ hd.heap_1 = hd.heap_1 := by
  k_fill
  exact ⟨rfl, rfl⟩

noncomputable def tkFn (P : Params) : List Stmt × Scope := fnOfK (hd.heap_1 P) 123
noncomputable abbrev tkEnv (P : Params) (Lf : Addr) : Env := envOfC (Str.ofString "_law_taken") (tkFn P).2 Lf 123 (.ref 122)
noncomputable def tkRet (P : Params) : List Stmt := (tkFn P).1.drop 7
noncomputable abbrev strTup (lo hi : Str) (t u : Tok) : Obj := { cls := .type "tuple", data := .seq #[.str lo t, .str hi u] }
/-- the ledger bears the list of the ranges -/
inductive RangesAre (news : List (Addr × Obj)) : List Value → List (Str × Str) → Prop
  | nil : RangesAre news [] []
  | cons {a : Addr} {lo hi : Str} {t u : Tok} {vs : List Value} {rs : List (Str × Str)} : (a, strTup lo hi t u) ∈ news → RangesAre news vs rs → RangesAre news (.ref a :: vs) ((lo, hi) :: rs)
theorem RangesAre.len {news : List (Addr × Obj)} {vs : List Value} {rs : List (Str × Str)} (h : RangesAre news vs rs) : vs.length = rs.length := by
  induction h with
  | nil => rfl
  | cons _ _ ih => exact congrArg Nat.succ ih
theorem RangesAre.at {news : List (Addr × Obj)} {vs : List Value} {rs : List (Str × Str)} (r : RangesAre news vs rs) : ∀ {i : Nat} {v : Value}, vs[i]? = some v → ∃ a lo hi t u, v = .ref a ∧ (a, strTup lo hi t u) ∈ news ∧ rs[i]? = some (lo, hi) := by
  induction r with
  | nil => intro i v h; cases h
  | cons hm _ ih =>
    intro i v h
    cases i with
    | zero => exact ⟨_, _, _, _, _, (Option.some.inj h).symm, hm, rfl⟩
    | succ i => exact ih h
noncomputable def inR (sg : Str) (r : Str × Str) : Bool := (!decide (sg.cps.toList < r.1.cps.toList)) && (!decide (r.2.cps.toList < sg.cps.toList))
noncomputable def sgn (S : Str) (j : Nat) : Str := ⟨#[(S.cps[j]?).getD 0]⟩
noncomputable def inAny (rs : List (Str × Str)) (sg : Str) (i : Nat) : Bool := match rs[i]? with
  | some r => inR sg r
  | none => false
theorem taken_end {w : World} {A : Around} {E : Value → Shared → Prop} {s : Shared} {gg : Heap} {Lf lr : Addr} {m9 : Str → Option Value} {oB oR : Obj} {b : Bool} {rv : List Value} {e : Nat} {rest : List (Addr × Obj)} {loose : List Str} {mean : ExcName → Option Value} {mg mb : Str → Option Value} {rs : List (Str × Str)} {K : Str} {Q : Flow → Shared → Prop}
    (hA : A.handled = none) (hu : A.units < cLine) (F : Fr gg Lf s.heap m9) (N : News gg Lf s.heap ((lr, listOf rv.toArray e) :: (Lf + 1 + 1, oR) :: (Lf + 1, oB) :: rest)) (X : (hd.heap_1 w.params).In gg) (T : Top topProg loose mean mg mb gg)
    (dB : oB.data = .cell (some (.bool b))) (dR : oR.data = .cell (some (.ref lr))) (hr : RangesAre rest rv rs) (hrv : rv.length ≤ 1000)
    (hKl : K.length ≤ 1000) (hK : catS (pickS (Str.ofString "-abc") (fun j => b != (decide (((List.range rs.length).any (inAny rs (sgn (Str.ofString "-abc") j))) = true))) 4) = K)
    (hQ : ∀ h' tk t', Fr gg Lf h' m9 → News gg Lf h' ((lr, listOf rv.toArray e) :: (Lf + 1 + 1, oR) :: (Lf + 1, oB) :: rest) → Q (.ret (.str K t')) { s with heap := h', toks := tk }) :
    wpAny (model PySem.Challenge.rw_ij0118_01.row.prog w) A (execs (tkRet w.params) (tkEnv w.params Lf)) Q E s := by
  iterate 2 (first | walk1 | (dsimp only; walk1) | skip)
  (repeat' (first | (k_unfold; (try dsimp only)) | ((fail_if_success (with_reducible show wpAny _ _ (eval (PySem.Expr.ListComp _ _ _ _) _) _ _ _)); (fail_if_success (with_reducible show wpAny _ _ (compareOp CmpOp.NotEq (Value.ref _) (Value.ref _)) _ _ _)); (fail_if_success (with_reducible show _ = _ ∧ _)); walk1) | ((fail_if_success (show wpAny _ _ (eval (PySem.Expr.ListComp _ _ _ _) _) _ _ _)); (fail_if_success (with_reducible show wpAny _ _ (compareOp CmpOp.NotEq (Value.ref _) (Value.ref _)) _ _ _)); (fail_if_success (with_reducible show _ = _ ∧ _)); dsimp only; walk1) | fail "no step"))
  refine comp1c_K (S := Str.ofString "-abc") (fun j => b != (decide (((List.range rs.length).any (inAny rs (sgn (Str.ofString "-abc") j))) = true))) (by k_asm) (by k_asm) hA (by with_unfolding_all rfl) rfl (by decide) rfl (by decide) (fun _ _ => by rfl) (by decide +kernel) (by decide +kernel) ?_ ?_ ?_ ?_
  · (repeat' (first | (k_unfold; (try dsimp only)) | ((fail_if_success (with_reducible show wpAny _ _ (eval (PySem.Expr.ListComp _ _ _ _) _) _ _ _)); (fail_if_success (with_reducible show wpAny _ _ (compareOp CmpOp.NotEq (Value.ref _) (Value.ref _)) _ _ _)); (fail_if_success (with_reducible show _ = _ ∧ _)); walk1) | ((fail_if_success (show wpAny _ _ (eval (PySem.Expr.ListComp _ _ _ _) _) _ _ _)); (fail_if_success (with_reducible show wpAny _ _ (compareOp CmpOp.NotEq (Value.ref _) (Value.ref _)) _ _ _)); (fail_if_success (with_reducible show _ = _ ∧ _)); dsimp only; walk1) | fail "no step"))
  · intro C c9 oc9 Lg h9 tk9 j v E9 hs hoc F9 N9 hsub
    obtain ⟨ch, u, hch, rfl⟩ := hs
    have N8 : News gg Lf h9 ((c9, oc9) :: (lr, listOf rv.toArray e) :: (Lf + 1 + 1, oR) :: (Lf + 1, oB) :: (rest ++ Lg)) := news_perm N9 (by
      intro p hp
      simp only [List.mem_cons, List.mem_append] at hp
      rcases hp with rfl | rfl | rfl | rfl | hp | hp
      · exact .head _
      · exact .tail _ (hsub _ (.head _))
      · exact .tail _ (hsub _ (.tail _ (.head _)))
      · exact .tail _ (hsub _ (.tail _ (.tail _ (.head _))))
      · exact .tail _ (hsub _ (.tail _ (.tail _ (.tail _ hp))))
      · exact .tail _ hp)
    (repeat' (first | (k_unfold; (try dsimp only)) | ((fail_if_success (with_reducible show wpAny _ _ (eval (PySem.Expr.ListComp _ _ _ _) _) _ _ _)); (fail_if_success (with_reducible show wpAny _ _ (compareOp CmpOp.NotEq (Value.ref _) (Value.ref _)) _ _ _)); (fail_if_success (with_reducible show _ = _ ∧ _)); walk1) | ((fail_if_success (show wpAny _ _ (eval (PySem.Expr.ListComp _ _ _ _) _) _ _ _)); (fail_if_success (with_reducible show wpAny _ _ (compareOp CmpOp.NotEq (Value.ref _) (Value.ref _)) _ _ _)); (fail_if_success (with_reducible show _ = _ ∧ _)); dsimp only; walk1) | fail "no step"))
    refine compP_K (vs := rv) (e := e) (ax := lr) (inAny rs (sgn (Str.ofString "-abc") j)) (by k_asm) N8 (by k_mem) hA hrv (by with_unfolding_all rfl) (by decide) rfl (by decide) rfl ?_ ?_ ?_ ?_
    · (repeat' (first | (k_unfold; (try dsimp only)) | ((fail_if_success (with_reducible show wpAny _ _ (eval (PySem.Expr.ListComp _ _ _ _) _) _ _ _)); (fail_if_success (with_reducible show wpAny _ _ (compareOp CmpOp.NotEq (Value.ref _) (Value.ref _)) _ _ _)); (fail_if_success (with_reducible show _ = _ ∧ _)); walk1) | ((fail_if_success (show wpAny _ _ (eval (PySem.Expr.ListComp _ _ _ _) _) _ _ _)); (fail_if_success (with_reducible show wpAny _ _ (compareOp CmpOp.NotEq (Value.ref _) (Value.ref _)) _ _ _)); (fail_if_success (with_reducible show _ = _ ∧ _)); dsimp only; walk1) | fail "no step"))
      exact ⟨rfl, rfl⟩
    · intro C2 oC2 m2 h2 tk2 i v E2 hv hC hmx F2 N2
      obtain ⟨a, lo, hi, t, u2, rfl, hmem, hri⟩ := hr.at hv
      have N3 : News gg Lf h2 ((a, strTup lo hi t u2) :: (c9, oc9) :: (lr, listOf rv.toArray e) :: (Lf + 1 + 1, oR) :: (Lf + 1, oB) :: (rest ++ Lg)) := news_perm N2 (by
        intro p hp
        rcases List.mem_cons.mp hp with rfl | hp
        · exact .tail _ (.tail _ (.tail _ (.tail _ (List.mem_append_left _ hmem))))
        · exact hp)
      clear N2 N8 N9
      have hin : inAny rs (sgn (Str.ofString "-abc") j) i = inR ⟨#[ch]⟩ (lo, hi) := by unfold inAny sgn; rw [hri, hch]; rfl
      rw [hin]
      (repeat' (first | (k_unfold; (try dsimp only)) | ((fail_if_success (with_reducible show wpAny _ _ (eval (PySem.Expr.ListComp _ _ _ _) _) _ _ _)); (fail_if_success (with_reducible show wpAny _ _ (compareOp CmpOp.NotEq (Value.ref _) (Value.ref _)) _ _ _)); (fail_if_success (with_reducible show _ = _ ∧ _)); walk1) | ((fail_if_success (show wpAny _ _ (eval (PySem.Expr.ListComp _ _ _ _) _) _ _ _)); (fail_if_success (with_reducible show wpAny _ _ (compareOp CmpOp.NotEq (Value.ref _) (Value.ref _)) _ _ _)); (fail_if_success (with_reducible show _ = _ ∧ _)); dsimp only; walk1) | fail "no step"))
      all_goals (rename_i hx; refine ⟨?_, _, rfl⟩; unfold inR; first | (rw [decide_eq_true hx]; rfl) | (rw [decide_eq_false hx]; simp))
    · intro C2 m2 s2 v E2 hn hm
      exact wpAny_Name (wpAny_loadName_local rfl rfl hn hm ⟨rfl, rfl⟩) (by decide)
    · intro D2 h2 tk2 F2 N2 o2
      (repeat' (first | (k_unfold; (try dsimp only)) | ((fail_if_success (with_reducible show wpAny _ _ (eval (PySem.Expr.ListComp _ _ _ _) _) _ _ _)); (fail_if_success (with_reducible show wpAny _ _ (compareOp CmpOp.NotEq (Value.ref _) (Value.ref _)) _ _ _)); (fail_if_success (with_reducible show _ = _ ∧ _)); walk1) | ((fail_if_success (show wpAny _ _ (eval (PySem.Expr.ListComp _ _ _ _) _) _ _ _)); (fail_if_success (with_reducible show wpAny _ _ (compareOp CmpOp.NotEq (Value.ref _) (Value.ref _)) _ _ _)); (fail_if_success (with_reducible show _ = _ ∧ _)); dsimp only; walk1) | fail "no step"))
      refine ne_nil_K (ys := pickV rv (inAny rs (sgn (Str.ofString "-abc") j)) rv.length) (by k_asm) (by k_mem) rfl rfl (by k_mem) rfl rfl hu ?_
      (repeat' (first | (k_unfold; (try dsimp only)) | ((fail_if_success (with_reducible show wpAny _ _ (eval (PySem.Expr.ListComp _ _ _ _) _) _ _ _)); (fail_if_success (with_reducible show wpAny _ _ (compareOp CmpOp.NotEq (Value.ref _) (Value.ref _)) _ _ _)); (fail_if_success (with_reducible show _ = _ ∧ _)); walk1) | ((fail_if_success (show wpAny _ _ (eval (PySem.Expr.ListComp _ _ _ _) _) _ _ _)); (fail_if_success (with_reducible show wpAny _ _ (compareOp CmpOp.NotEq (Value.ref _) (Value.ref _)) _ _ _)); (fail_if_success (with_reducible show _ = _ ∧ _)); dsimp only; walk1) | fail "no step"))
      have hl := pickV_nil rv (inAny rs (sgn (Str.ofString "-abc") j)) rv.length (Nat.le_refl _)
      rw [show (List.range rv.length) = List.range rs.length by rw [hr.len]] at hl
      refine ⟨?_, _, _, rfl, by k_asm, ?_⟩
      · congr 1
        rw [decide_eq_decide]
        cases hq : (List.range rs.length).any (inAny rs (sgn (Str.ofString "-abc") j)) with
        | true => rw [hq] at hl; simpa using hl
        | false => rw [hq] at hl; simpa using hl
      · have N7 : News gg Lf _ ((c9, oc9) :: (lr, listOf rv.toArray e) :: (Lf + 1 + 1, oR) :: (Lf + 1, oB) :: (rest ++ Lg)) := news_perm (by k_asm) (by k_slotset)
        intro p hp
        rcases List.mem_cons.mp hp with rfl | hp
        · exact N7 _ (.head _)
        · exact N7 _ (.tail _ (.tail _ (.tail _ (.tail _ (List.mem_append_right _ hp)))))
  · intro C c9 oc9 s9 v E9 hoc N9
    refine lcf_cell N9 rfl (.head _) hoc ?_ rfl rfl
    exact ⟨rfl, rfl⟩
  · intro D h9 tk9 ys F9 N9 hlt hys
    have hsz : (Str.ofString "-abc").cps.size = 4 := by decide +kernel
    rw [hsz] at hys
    (repeat' (first | (k_unfold; (try dsimp only)) | ((fail_if_success (with_reducible show wpAny _ _ (eval (PySem.Expr.ListComp _ _ _ _) _) _ _ _)); (fail_if_success (with_reducible show wpAny _ _ (compareOp CmpOp.NotEq (Value.ref _) (Value.ref _)) _ _ _)); (fail_if_success (with_reducible show _ = _ ∧ _)); walk1) | ((fail_if_success (show wpAny _ _ (eval (PySem.Expr.ListComp _ _ _ _) _) _ _ _)); (fail_if_success (with_reducible show wpAny _ _ (compareOp CmpOp.NotEq (Value.ref _) (Value.ref _)) _ _ _)); (fail_if_success (with_reducible show _ = _ ∧ _)); dsimp only; walk1) | fail "no step"))
    refine join_led (vs := ys) (e := ys.length) N9 (.head _) hys (by rw [hK]; exact hKl) ?_ (fun t' k => ?_)
    · rw [hys.len_eq]
      unfold pickS
      rw [List.length_map]
      exact Nat.le_trans (List.length_filter_le _ _) (by rw [List.length_range]; decide)
    · rw [hK]
      exact hQ _ _ _ F9 (fun p hp => N9 p (.tail _ hp))

end
-- T22
section
theorem fillT22 : PySem.Challenge.rw_ij0118_01 = PySem.Challenge.rw_ij0118_01 ∧ hd.heap_1 = hd.heap_1 := by
  k_fill
  exact ⟨rfl, rfl⟩

noncomputable def tkHead (P : Params) : List Stmt := (tkFn P).1.take 6
noncomputable def tkTurn (P : Params) : List Stmt := thenOf (nth (tkFn P).1 6)
inductive HeadTk (s : Shared) (gg : Heap) (Lf : Addr) (m9 : Str → Option Value) (news : List (Addr × Obj)) (b : Bool) (S0 : Str) (f : Flow) (s' : Shared) : Prop
  | mk : (f = .next) → ∀ h' tk m' lr oR oB tl, (s' = { s with heap := h', toks := tk }) → (Fr gg Lf h' m') → (News gg Lf h' ((lr, listOf #[] 0) :: (Lf + 1 + 1, oR) :: (Lf + 1, oB) :: news)) → (oB.data = .cell (some (.bool b))) → (oR.data = .cell (some (.ref lr))) → (m' (Str.ofString "left") = some (.str S0 tl)) → (@LT.lt Nat _ (Lf + 1 + 1) lr) → ((∀ p ∈ news, @LT.lt Nat _ p.1 lr)) → HeadTk s gg Lf m9 news b S0 f s'
theorem tk_head {w : World} {A : Around} {E : Value → Shared → Prop} {s : Shared} {gg : Heap} {Lf : Addr} {m9 : Str → Option Value} {oB oR : Obj} {b : Bool} {v1 v2 : Option Value} {news : List (Addr × Obj)} {loose : List Str} {mean : ExcName → Option Value} {mg mb : Str → Option Value} {S c1 S0 : Str} {tp : Tok}
    (hA : A.handled = none) (F : Fr gg Lf s.heap m9) (N : News gg Lf s.heap ((Lf + 1 + 1, oR) :: (Lf + 1, oB) :: news)) (X : (hd.heap_1 w.params).In gg) (T : Top topProg loose mean mg mb gg) (lA : AllLt Lf news)
    (dB : oB.data = .cell v1) (dR : oR.data = .cell v2) (hS : S.length ≤ 1000) (p1 : m9 (Str.ofString "part") = some (.str S tp)) (q1 : (S == Str.ofString ".") = false) (q2 : (S == Str.ofString "(?!)") = false) (i0 : ItemAt S 0 (Str.ofString "[")) (i1 : ItemAt S 1 c1) (hb : (c1 == Str.ofString "^") = b)
    (hl : Txt.slice S (some (if b then 2 else 1)) (some (-1)) = S0) :
    wpAny (model PySem.Challenge.rw_ij0118_01.row.prog w) A (execs (tkHead w.params) (tkEnv w.params Lf)) (HeadTk s gg Lf m9 news b S0) E s := by
  cases b
  all_goals iterate 2 (first | walk1 | (dsimp only; walk1) | skip)
  all_goals (repeat' (first | (k_unfold; (try dsimp only)) | ((with_reducible show wpAny _ _ (call (Value.builtin "list.append") _) _ _ _); (first | with_reducible ((k_here; (with_reducible show wpAny _ _ (call (Value.builtin _) [Value.ref _, _]) _ _ _); k_dflt (refine' app_K (by k_asm) (by k_asm) (by k_upd) (by first | with_reducible assumption | omega | assumption) ?_); intro _ _ _; (try k_sweep))) | ((k_here; (with_reducible show wpAny _ _ (call (Value.builtin _) [Value.ref _, _]) _ _ _); k_dflt (refine' app_K (by k_asm) (by k_asm) (by k_upd) (by first | with_reducible assumption | omega | assumption) ?_); intro _ _ _; (try k_sweep))))) | ((with_reducible show wpAny _ _ (subscriptTail _ (PySem.Expr.BinOp _ _ _ _) (Value.str _ _) (Value.int _ _)) _ _ _); (first | with_reducible ((k_here; (with_reducible refine' item_at ?i1 ?i2 ?_ ?i3 ?i4); (case i1 => k_dflt assumption); (case i2 => k_asm); (case i3 => k_dflt with_unfolding_all rfl); (case i4 => k_dflt (intro _; with_unfolding_all rfl)))) | ((k_here; (with_reducible refine' item_at ?i1 ?i2 ?_ ?i3 ?i4); (case i1 => k_dflt assumption); (case i2 => k_asm); (case i3 => k_dflt with_unfolding_all rfl); (case i4 => k_dflt (intro _; with_unfolding_all rfl)))))) | ((with_reducible show wpAny _ _ (subscriptTail _ (PySem.Expr.Constant _ _ _) (Value.str _ _) (Value.int _ _)) _ _ _); (first | with_reducible ((k_here; (with_reducible refine' item_at ?i1 ?i2 ?_ ?i3 ?i4); (case i1 => k_dflt assumption); (case i2 => k_asm); (case i3 => k_dflt with_unfolding_all rfl); (case i4 => k_dflt (intro _; with_unfolding_all rfl)))) | ((k_here; (with_reducible refine' item_at ?i1 ?i2 ?_ ?i3 ?i4); (case i1 => k_dflt assumption); (case i2 => k_asm); (case i3 => k_dflt with_unfolding_all rfl); (case i4 => k_dflt (intro _; with_unfolding_all rfl)))))) | ((fail_if_success (with_reducible show _ = _ ∧ _)); (fail_if_success (with_reducible show HeadTk _ _ _ _ _ _ _ _ _)); (fail_if_success (with_reducible show TurnTk _ _ _ _ _ _ _ _ _ _ _ _ _ _ _)); walk1) | ((fail_if_success (with_reducible show _ = _ ∧ _)); (fail_if_success (with_reducible show HeadTk _ _ _ _ _ _ _ _ _)); (fail_if_success (with_reducible show TurnTk _ _ _ _ _ _ _ _ _ _ _ _ _ _ _)); dsimp only; walk1) | fail "no step"))
  all_goals (rename _ ∧ _ ∧ AllLt _ _ => hl9)
  all_goals refine wpAny_execs_nil (show HeadTk s gg Lf m9 news _ S0 .next _ from ⟨rfl, _, _, _, _, _, _, _, rfl, by k_asm, by k_asm, ?_, by k_asm, by rw [← hl]; rfl, hl9.1, fun p hp => allLt_all hl9.2.2 p hp⟩)
  all_goals (first | assumption | skip)

noncomputable def TurnTk (s : Shared) (gg : Heap) (Lf lr : Addr) (oR oB : Obj) (rv : List Value) (e : Nat) (rest : List (Addr × Obj)) (lo hi S' : Str) (f : Flow) (s' : Shared) : Prop :=
  f = .next ∧ ∃ h' tk m' D t u tl, s' = { s with heap := h', toks := tk } ∧ Fr gg Lf h' m' ∧ News gg Lf h' ((D, strTup lo hi t u) :: (lr, listOf (rv ++ [Value.ref D]).toArray (e + 1)) :: (Lf + 1 + 1, oR) :: (Lf + 1, oB) :: rest) ∧
    m' (Str.ofString "left") = some (.str S' tl) ∧ @LT.lt Nat _ lr D ∧ @LT.lt Nat _ (Lf + 1 + 1) D ∧ (∀ p ∈ rest, @LT.lt Nat _ p.1 D)
section
variable {w : World} {A : Around} {E : Value → Shared → Prop} {s : Shared} {gg : Heap} {Lf lr : Addr} {m9 : Str → Option Value} {oB oR : Obj} {v1 : Option Value} {rv : List Value} {e : Nat} {rest : List (Addr × Obj)} {loose : List Str} {mean : ExcName → Option Value} {mg mb : Str → Option Value} {S c c2 S' : Str} {tl : Tok}
theorem tk_plain (hA : A.handled = none) (F : Fr gg Lf s.heap m9) (N : News gg Lf s.heap ((lr, listOf rv.toArray e) :: (Lf + 1 + 1, oR) :: (Lf + 1, oB) :: rest)) (X : (hd.heap_1 w.params).In gg) (T : Top topProg loose mean mg mb gg)
    (dR : oR.data = .cell (some (.ref lr))) (hlr : @LT.lt Nat _ (Lf + 1 + 1) lr) (hne : ∀ p ∈ rest, p.1 ≠ lr) (hrv : rv.length ≤ 100) (hS : S.length ≤ 1000) (p1 : m9 (Str.ofString "left") = some (.str S tl))
    (i0 : ItemAt S 0 c) (h0 : (c == Str.ofString "\\") = false) (h1 : (Txt.slice (Txt.slice S (some 1) none) none (some 1) == Str.ofString "-") = false) (h2 : Txt.slice S (some 1) none = S') :
    wpAny (model PySem.Challenge.rw_ij0118_01.row.prog w) A (execs (tkTurn w.params) (tkEnv w.params Lf)) (TurnTk s gg Lf lr oR oB rv e rest c c S') E s := by
  subst h2
  iterate 2 (first | walk1 | (dsimp only; walk1) | skip)
  (repeat' (first | (k_unfold; (try dsimp only)) | ((with_reducible show wpAny _ _ (call (Value.builtin "list.append") _) _ _ _); (first | with_reducible ((k_here; (with_reducible show wpAny _ _ (call (Value.builtin _) [Value.ref _, _]) _ _ _); k_dflt (refine' app_K (by k_asm) (by k_asm) (by k_upd) (by first | with_reducible assumption | omega | assumption) ?_); intro _ _ _; (try k_sweep))) | ((k_here; (with_reducible show wpAny _ _ (call (Value.builtin _) [Value.ref _, _]) _ _ _); k_dflt (refine' app_K (by k_asm) (by k_asm) (by k_upd) (by first | with_reducible assumption | omega | assumption) ?_); intro _ _ _; (try k_sweep))))) | ((with_reducible show wpAny _ _ (subscriptTail _ (PySem.Expr.BinOp _ _ _ _) (Value.str _ _) (Value.int _ _)) _ _ _); (first | with_reducible ((k_here; (with_reducible refine' item_at ?i1 ?i2 ?_ ?i3 ?i4); (case i1 => k_dflt assumption); (case i2 => k_asm); (case i3 => k_dflt with_unfolding_all rfl); (case i4 => k_dflt (intro _; with_unfolding_all rfl)))) | ((k_here; (with_reducible refine' item_at ?i1 ?i2 ?_ ?i3 ?i4); (case i1 => k_dflt assumption); (case i2 => k_asm); (case i3 => k_dflt with_unfolding_all rfl); (case i4 => k_dflt (intro _; with_unfolding_all rfl)))))) | ((with_reducible show wpAny _ _ (subscriptTail _ (PySem.Expr.Constant _ _ _) (Value.str _ _) (Value.int _ _)) _ _ _); (first | with_reducible ((k_here; (with_reducible refine' item_at ?i1 ?i2 ?_ ?i3 ?i4); (case i1 => k_dflt assumption); (case i2 => k_asm); (case i3 => k_dflt with_unfolding_all rfl); (case i4 => k_dflt (intro _; with_unfolding_all rfl)))) | ((k_here; (with_reducible refine' item_at ?i1 ?i2 ?_ ?i3 ?i4); (case i1 => k_dflt assumption); (case i2 => k_asm); (case i3 => k_dflt with_unfolding_all rfl); (case i4 => k_dflt (intro _; with_unfolding_all rfl)))))) | ((fail_if_success (with_reducible show _ = _ ∧ _)); (fail_if_success (with_reducible show HeadTk _ _ _ _ _ _ _ _ _)); (fail_if_success (with_reducible show TurnTk _ _ _ _ _ _ _ _ _ _ _ _ _ _ _)); walk1) | ((fail_if_success (with_reducible show _ = _ ∧ _)); (fail_if_success (with_reducible show HeadTk _ _ _ _ _ _ _ _ _)); (fail_if_success (with_reducible show TurnTk _ _ _ _ _ _ _ _ _ _ _ _ _ _ _)); dsimp only; walk1) | fail "no step"))
  rename _ ∧ _ ∧ _ ∧ AllLt _ _ => l9
  exact ⟨rfl, _, _, _, _, _, _, _, rfl, by k_asm, by k_asm, rfl, l9.1, l9.2.1, fun p hp => allLt_all l9.2.2.2 p hp⟩
theorem tk_esc (hA : A.handled = none) (F : Fr gg Lf s.heap m9) (N : News gg Lf s.heap ((lr, listOf rv.toArray e) :: (Lf + 1 + 1, oR) :: (Lf + 1, oB) :: rest)) (X : (hd.heap_1 w.params).In gg) (T : Top topProg loose mean mg mb gg)
    (dR : oR.data = .cell (some (.ref lr))) (hlr : @LT.lt Nat _ (Lf + 1 + 1) lr) (hne : ∀ p ∈ rest, p.1 ≠ lr) (hrv : rv.length ≤ 100) (hS : S.length ≤ 1000) (p1 : m9 (Str.ofString "left") = some (.str S tl))
    (i0 : ItemAt S 0 c) (h0 : (c == Str.ofString "\\") = true) (i1 : ItemAt S (2 - 1) c2) (h1 : (Txt.slice (Txt.slice S (some 2) none) none (some 1) == Str.ofString "-") = false) (h2 : Txt.slice S (some 2) none = S') :
    wpAny (model PySem.Challenge.rw_ij0118_01.row.prog w) A (execs (tkTurn w.params) (tkEnv w.params Lf)) (TurnTk s gg Lf lr oR oB rv e rest c2 c2 S') E s := by
  subst h2
  iterate 2 (first | walk1 | (dsimp only; walk1) | skip)
  (repeat' (first | (k_unfold; (try dsimp only)) | ((with_reducible show wpAny _ _ (call (Value.builtin "list.append") _) _ _ _); (first | with_reducible ((k_here; (with_reducible show wpAny _ _ (call (Value.builtin _) [Value.ref _, _]) _ _ _); k_dflt (refine' app_K (by k_asm) (by k_asm) (by k_upd) (by first | with_reducible assumption | omega | assumption) ?_); intro _ _ _; (try k_sweep))) | ((k_here; (with_reducible show wpAny _ _ (call (Value.builtin _) [Value.ref _, _]) _ _ _); k_dflt (refine' app_K (by k_asm) (by k_asm) (by k_upd) (by first | with_reducible assumption | omega | assumption) ?_); intro _ _ _; (try k_sweep))))) | ((with_reducible show wpAny _ _ (subscriptTail _ (PySem.Expr.BinOp _ _ _ _) (Value.str _ _) (Value.int _ _)) _ _ _); (first | with_reducible ((k_here; (with_reducible refine' item_at ?i1 ?i2 ?_ ?i3 ?i4); (case i1 => k_dflt assumption); (case i2 => k_asm); (case i3 => k_dflt with_unfolding_all rfl); (case i4 => k_dflt (intro _; with_unfolding_all rfl)))) | ((k_here; (with_reducible refine' item_at ?i1 ?i2 ?_ ?i3 ?i4); (case i1 => k_dflt assumption); (case i2 => k_asm); (case i3 => k_dflt with_unfolding_all rfl); (case i4 => k_dflt (intro _; with_unfolding_all rfl)))))) | ((with_reducible show wpAny _ _ (subscriptTail _ (PySem.Expr.Constant _ _ _) (Value.str _ _) (Value.int _ _)) _ _ _); (first | with_reducible ((k_here; (with_reducible refine' item_at ?i1 ?i2 ?_ ?i3 ?i4); (case i1 => k_dflt assumption); (case i2 => k_asm); (case i3 => k_dflt with_unfolding_all rfl); (case i4 => k_dflt (intro _; with_unfolding_all rfl)))) | ((k_here; (with_reducible refine' item_at ?i1 ?i2 ?_ ?i3 ?i4); (case i1 => k_dflt assumption); (case i2 => k_asm); (case i3 => k_dflt with_unfolding_all rfl); (case i4 => k_dflt (intro _; with_unfolding_all rfl)))))) | ((fail_if_success (with_reducible show _ = _ ∧ _)); (fail_if_success (with_reducible show HeadTk _ _ _ _ _ _ _ _ _)); (fail_if_success (with_reducible show TurnTk _ _ _ _ _ _ _ _ _ _ _ _ _ _ _)); walk1) | ((fail_if_success (with_reducible show _ = _ ∧ _)); (fail_if_success (with_reducible show HeadTk _ _ _ _ _ _ _ _ _)); (fail_if_success (with_reducible show TurnTk _ _ _ _ _ _ _ _ _ _ _ _ _ _ _)); dsimp only; walk1) | fail "no step"))
  rename _ ∧ _ ∧ _ ∧ AllLt _ _ => l9
  exact ⟨rfl, _, _, _, _, _, _, _, rfl, by k_asm, by k_asm, rfl, l9.1, l9.2.1, fun p hp => allLt_all l9.2.2.2 p hp⟩
theorem tk_range (hA : A.handled = none) (F : Fr gg Lf s.heap m9) (N : News gg Lf s.heap ((lr, listOf rv.toArray e) :: (Lf + 1 + 1, oR) :: (Lf + 1, oB) :: rest)) (X : (hd.heap_1 w.params).In gg) (T : Top topProg loose mean mg mb gg)
    (dR : oR.data = .cell (some (.ref lr))) (hlr : @LT.lt Nat _ (Lf + 1 + 1) lr) (hne : ∀ p ∈ rest, p.1 ≠ lr) (hrv : rv.length ≤ 100) (hS : S.length ≤ 1000) (p1 : m9 (Str.ofString "left") = some (.str S tl))
    (i0 : ItemAt S 0 c) (h0 : (c == Str.ofString "\\") = false) (hS1 : (Txt.slice S (some 1) none).length ≤ 1000) (i1 : ItemAt (Txt.slice S (some 1) none) 1 c2) (h3 : (c2 == Str.ofString "\\") = false) (h1 : (Txt.slice (Txt.slice S (some 1) none) none (some 1) == Str.ofString "-") = true) (h2 : Txt.slice (Txt.slice S (some 1) none) (some (1 + 1)) none = S') :
    wpAny (model PySem.Challenge.rw_ij0118_01.row.prog w) A (execs (tkTurn w.params) (tkEnv w.params Lf)) (TurnTk s gg Lf lr oR oB rv e rest c c2 S') E s := by
  subst h2
  iterate 2 (first | walk1 | (dsimp only; walk1) | skip)
  (repeat' (first | (k_unfold; (try dsimp only)) | ((with_reducible show wpAny _ _ (call (Value.builtin "list.append") _) _ _ _); (first | with_reducible ((k_here; (with_reducible show wpAny _ _ (call (Value.builtin _) [Value.ref _, _]) _ _ _); k_dflt (refine' app_K (by k_asm) (by k_asm) (by k_upd) (by first | with_reducible assumption | omega | assumption) ?_); intro _ _ _; (try k_sweep))) | ((k_here; (with_reducible show wpAny _ _ (call (Value.builtin _) [Value.ref _, _]) _ _ _); k_dflt (refine' app_K (by k_asm) (by k_asm) (by k_upd) (by first | with_reducible assumption | omega | assumption) ?_); intro _ _ _; (try k_sweep))))) | ((with_reducible show wpAny _ _ (subscriptTail _ (PySem.Expr.BinOp _ _ _ _) (Value.str _ _) (Value.int _ _)) _ _ _); (first | with_reducible ((k_here; (with_reducible refine' item_at ?i1 ?i2 ?_ ?i3 ?i4); (case i1 => k_dflt assumption); (case i2 => k_asm); (case i3 => k_dflt with_unfolding_all rfl); (case i4 => k_dflt (intro _; with_unfolding_all rfl)))) | ((k_here; (with_reducible refine' item_at ?i1 ?i2 ?_ ?i3 ?i4); (case i1 => k_dflt assumption); (case i2 => k_asm); (case i3 => k_dflt with_unfolding_all rfl); (case i4 => k_dflt (intro _; with_unfolding_all rfl)))))) | ((with_reducible show wpAny _ _ (subscriptTail _ (PySem.Expr.Constant _ _ _) (Value.str _ _) (Value.int _ _)) _ _ _); (first | with_reducible ((k_here; (with_reducible refine' item_at ?i1 ?i2 ?_ ?i3 ?i4); (case i1 => k_dflt assumption); (case i2 => k_asm); (case i3 => k_dflt with_unfolding_all rfl); (case i4 => k_dflt (intro _; with_unfolding_all rfl)))) | ((k_here; (with_reducible refine' item_at ?i1 ?i2 ?_ ?i3 ?i4); (case i1 => k_dflt assumption); (case i2 => k_asm); (case i3 => k_dflt with_unfolding_all rfl); (case i4 => k_dflt (intro _; with_unfolding_all rfl)))))) | ((fail_if_success (with_reducible show _ = _ ∧ _)); (fail_if_success (with_reducible show HeadTk _ _ _ _ _ _ _ _ _)); (fail_if_success (with_reducible show TurnTk _ _ _ _ _ _ _ _ _ _ _ _ _ _ _)); walk1) | ((fail_if_success (with_reducible show _ = _ ∧ _)); (fail_if_success (with_reducible show HeadTk _ _ _ _ _ _ _ _ _)); (fail_if_success (with_reducible show TurnTk _ _ _ _ _ _ _ _ _ _ _ _ _ _ _)); dsimp only; walk1) | fail "no step"))
  rename _ ∧ _ ∧ _ ∧ AllLt _ _ => l9
  exact ⟨rfl, _, _, _, _, _, _, _, rfl, by k_asm, by k_asm, rfl, l9.1, l9.2.1, fun p hp => allLt_all l9.2.2.2 p hp⟩
end

end
-- T23
section
theorem fillT23 : PySem.Challenge.rw_ij0118_01 = PySem.Challenge.rw_ij0118_01 ∧ hd.heap_1 = hd.heap_1 := by
  k_fill
  exact ⟨rfl, rfl⟩

/-- how the loop eats what stands within the bracket -/
inductive Eats : Str → List (Str × Str) → Prop
  | nil : Eats (Str.ofString "") []
  | plain {S c S' : Str} {rs : List (Str × Str)} : S.length ≤ 1000 → (S != Str.ofString "") = true → ItemAt S 0 c → (c == Str.ofString "\\") = false → (Txt.slice (Txt.slice S (some 1) none) none (some 1) == Str.ofString "-") = false → Txt.slice S (some 1) none = S' → Eats S' rs → Eats S ((c, c) :: rs)
  | esc {S c c2 S' : Str} {rs : List (Str × Str)} : S.length ≤ 1000 → (S != Str.ofString "") = true → ItemAt S 0 c → (c == Str.ofString "\\") = true → ItemAt S (2 - 1) c2 → (Txt.slice (Txt.slice S (some 2) none) none (some 1) == Str.ofString "-") = false → Txt.slice S (some 2) none = S' → Eats S' rs → Eats S ((c2, c2) :: rs)
  | range {S c c2 S' : Str} {rs : List (Str × Str)} : S.length ≤ 1000 → (S != Str.ofString "") = true → ItemAt S 0 c → (c == Str.ofString "\\") = false → (Txt.slice S (some 1) none).length ≤ 1000 → ItemAt (Txt.slice S (some 1) none) 1 c2 → (c2 == Str.ofString "\\") = false → (Txt.slice (Txt.slice S (some 1) none) none (some 1) == Str.ofString "-") = true → Txt.slice (Txt.slice S (some 1) none) (some (1 + 1)) none = S' → Eats S' rs → Eats S ((c, c2) :: rs)
theorem RangesAre.mono {n1 n2 : List (Addr × Obj)} (hs : ∀ p ∈ n1, p ∈ n2) : ∀ {vs : List Value} {rs : List (Str × Str)}, RangesAre n1 vs rs → RangesAre n2 vs rs
  | _, _, .nil => .nil
  | _, _, .cons h r => .cons (hs _ h) (r.mono hs)
theorem RangesAre.snoc {news : List (Addr × Obj)} {a : Addr} {lo hi : Str} {t u : Tok} (hm : (a, strTup lo hi t u) ∈ news) : ∀ {vs : List Value} {rs : List (Str × Str)}, RangesAre news vs rs → RangesAre news (vs ++ [.ref a]) (rs ++ [(lo, hi)])
  | _, _, .nil => .cons hm .nil
  | _, _, .cons h r => .cons h (r.snoc hm)
inductive InvTk (s : Shared) (gg : Heap) (Lf lr : Addr) (oR oB : Obj) (news : List (Addr × Obj)) (rs : List (Str × Str)) (n : Nat) (s' : Shared) : Prop
  | mk : ∀ (h : Heap) (tk : Nat) (m' : Str → Option Value) (rv : List Value) (e : Nat) (S : Str) (rs0 rs1 : List (Str × Str)) (tups : List (Addr × Obj)) (tl : Tok), (s' = { s with heap := h, toks := tk }) → (n = rs1.length) → (rs = rs0 ++ rs1) → (Eats S rs1) → (Fr gg Lf h m') → (News gg Lf h ((lr, listOf rv.toArray e) :: (Lf + 1 + 1, oR) :: (Lf + 1, oB) :: (tups ++ news))) → (RangesAre (tups ++ news) rv rs0) → (m' (Str.ofString "left") = some (.str S tl)) → ((∀ p ∈ tups, @LT.lt Nat _ lr p.1)) → InvTk s gg Lf lr oR oB news rs n s'
theorem taken_brk {w loose mean mg mb} (S c1 S0 K : Str) (b : Bool) (rs : List (Str × Str)) (t : Tok) (hS : S.length ≤ 1000) (q1 : (S == Str.ofString ".") = false) (q2 : (S == Str.ofString "(?!)") = false) (i0 : ItemAt S 0 (Str.ofString "[")) (i1 : ItemAt S 1 c1) (hb : (c1 == Str.ofString "^") = b)
    (hl : Txt.slice S (some (if b then 2 else 1)) (some (-1)) = S0) (hE : Eats S0 rs) (hrs : rs.length ≤ 50)
    (hKl : K.length ≤ 1000) (hK : catS (pickS (Str.ofString "-abc") (fun j => b != (decide (((List.range rs.length).any (inAny rs (sgn (Str.ofString "-abc") j))) = true))) 4) = K) :
   Spec w loose mean mg mb 340 40 123 (fun _ => True) [.str S t] (fun _ r => ∃ t', r = .str K t') := by
  intro dp un gd cn cs a ccd cl outer A₀ base h₀ L m news s Q E hdp hun B F X N T hk _ hret
  refine around_le (A' := ktrTop 340 40 gd cn cs L a ccd cl outer) rfl hdp rfl rfl hun ?_
  obtain ⟨k, nm, g, c, mo⟩ := cs
  subst hk
  walk1
  have hLL := frame_lt (h₀ := h₀) (L := L) (m := m) (by assumption) (by assumption)
  rename_i gg Lf _ _ FG F0 BG XG TG l1 o1 o2 d1 d2 N0
  have lA : AllLt Lf news := allLt_of l1
  show wpAny _ _ (execs (tkFn w.params).1 (tkEnv w.params Lf)) _ _ _
  refine execs_app 6 ?_
  refine wpAny_mono (show wpAny _ _ (execs (tkHead w.params) (tkEnv w.params Lf)) _ _ _ from tk_head (b := b) (tp := t) rfl F0 N0 XG TG lA d2 d1 hS (by rfl) q1 q2 i0 i1 hb hl) ?_ (fun _ _ e => e)
  rintro f s1 ⟨rfl, h1, tk1, m1, lr, oR, oB, tl, rfl, F1, N1, dB, dR, e1, hlr, hnl⟩
  refine ⟨rfl, ?_⟩
  show wpAny _ _ (execs (nth (tkFn w.params).1 6 :: tkRet w.params) (tkEnv w.params Lf)) _ _ _
  refine wpAny_execs_cons ?_
  refine While_G (InvTk s gg Lf lr oR oB news rs) (n₀ := rs.length) ?_ ?_ (by passes_own)
  · exact ⟨h1, tk1, m1, [], 0, S0, [], rs, [], tl, rfl, rfl, rfl, hE, F1, N1, .nil, e1, fun p hp => nomatch hp⟩
  · rintro n s' ⟨h, tk, m', rv, e, S, rs0, rs1, tups, tl, rfl, rfl, hrs1, hE1, F2, N2, hR, e2, htu⟩
    have hne : ∀ p ∈ tups ++ news, p.1 ≠ lr := by
      intro p hp
      rcases List.mem_append.mp hp with hp | hp
      · exact Nat.ne_of_gt (htu p hp)
      · exact Nat.ne_of_lt (hnl p hp)
    have hrv : rv.length ≤ 50 := by
      rw [hR.len]
      have := congrArg List.length hrs1
      rw [List.length_append] at this
      omega
    have fin : ∀ (r : Str × Str) (rs' : List (Str × Str)) (S' : Str) (s2 : Shared) (f : Flow), rs1 = r :: rs' → Eats S' rs' → TurnTk { s with heap := h, toks := tk } gg Lf lr oR oB rv e (tups ++ news) r.1 r.2 S' f s2 → f = .next ∧ ∃ n', n' < rs1.length ∧ InvTk s gg Lf lr oR oB news rs n' s2 := by
      rintro r rs' S' s2 f rfl hE2 ⟨rfl, h3, tk3, m3, D, t3, u3, tl3, rfl, F3, N3, e3, hD, hD2, hDn⟩
      refine ⟨rfl, rs'.length, by simp, h3, tk3, m3, rv ++ [.ref D], e + 1, S', rs0 ++ [r], rs', (D, strTup r.1 r.2 t3 u3) :: tups, tl3, rfl, rfl, by rw [hrs1]; simp, hE2, F3, ?_, ?_, e3, ?_⟩
      · refine news_perm N3 ?_
        k_slotset
      · exact RangesAre.snoc (.head _) (hR.mono fun p hp => .tail _ hp)
      · intro p hp
        rcases List.mem_cons.mp hp with rfl | hp
        · exact hD
        · exact htu p hp
    cases hE1 with
    | nil =>
      have hfal : (Str.ofString "" != Str.ofString "") = false := by decide
      (repeat' (first | (k_unfold; (try dsimp only)) | (k_end; wrow_close) | ((fail_if_success (with_reducible show _ = _ ∧ _)); (fail_if_success (with_reducible show wpAny _ _ (execs (Stmt.Assign [PySem.Expr.Name (PySem.Str.ofString "size") _] _ _ :: _) _) _ _ _)); (fail_if_success (with_reducible show wpAny _ _ (execs (tkRet _) _) _ _ _)); walk1) | ((fail_if_success (with_reducible show _ = _ ∧ _)); (fail_if_success (with_reducible show wpAny _ _ (execs (Stmt.Assign [PySem.Expr.Name (PySem.Str.ofString "size") _] _ _ :: _) _) _ _ _)); (fail_if_success (with_reducible show wpAny _ _ (execs (tkRet _) _) _ _ _)); dsimp only; walk1) | (leave1; walk_say "STEP leave1"; try dsimp only) | fail "no step"))
      have hrs0 : rs0 = rs := by rw [hrs1]; simp
      subst hrs0
      refine (show wpAny _ _ (execs (tkRet w.params) (tkEnv w.params Lf)) _ _ _ from taken_end (b := b) (K := K) (rs := rs0) (rv := rv) (e := e) (lr := lr) rfl (by units_room) (by k_asm) (by k_asm) XG TG dB dR hR (by omega) hKl hK (fun h' tk' t' F' N' => ?_))
      have N8 : News gg Lf h' news := fun p hp => N' p (.tail _ (.tail _ (.tail _ (List.mem_append_right _ hp))))
      clear N'
      (repeat' (first | (k_unfold; (try dsimp only)) | (k_end; wrow_close) | ((fail_if_success (with_reducible show _ = _ ∧ _)); (fail_if_success (with_reducible show wpAny _ _ (execs (Stmt.Assign [PySem.Expr.Name (PySem.Str.ofString "size") _] _ _ :: _) _) _ _ _)); (fail_if_success (with_reducible show wpAny _ _ (execs (tkRet _) _) _ _ _)); walk1) | ((fail_if_success (with_reducible show _ = _ ∧ _)); (fail_if_success (with_reducible show wpAny _ _ (execs (Stmt.Assign [PySem.Expr.Name (PySem.Str.ofString "size") _] _ _ :: _) _) _ _ _)); (fail_if_success (with_reducible show wpAny _ _ (execs (tkRet _) _) _ _ _)); dsimp only; walk1) | (leave1; walk_say "STEP leave1"; try dsimp only) | fail "no step"))
      refine hret _ [] _ _ (by k_asm) (by k_asm) (fun p hp => nomatch hp) ⟨_, rfl⟩
    | plain a1 a2 a3 a4 a5 a6 a7 =>
      (repeat' (first | (k_unfold; (try dsimp only)) | (k_end; wrow_close) | ((fail_if_success (with_reducible show _ = _ ∧ _)); (fail_if_success (with_reducible show wpAny _ _ (execs (Stmt.Assign [PySem.Expr.Name (PySem.Str.ofString "size") _] _ _ :: _) _) _ _ _)); (fail_if_success (with_reducible show wpAny _ _ (execs (tkRet _) _) _ _ _)); walk1) | ((fail_if_success (with_reducible show _ = _ ∧ _)); (fail_if_success (with_reducible show wpAny _ _ (execs (Stmt.Assign [PySem.Expr.Name (PySem.Str.ofString "size") _] _ _ :: _) _) _ _ _)); (fail_if_success (with_reducible show wpAny _ _ (execs (tkRet _) _) _ _ _)); dsimp only; walk1) | (leave1; walk_say "STEP leave1"; try dsimp only) | fail "no step"))
      refine wpAny_mono (show wpAny _ _ (execs (tkTurn w.params) (tkEnv w.params Lf)) _ _ _ from tk_plain rfl (by k_asm) (by k_asm) XG TG dR hlr hne (by omega) a1 e2 a3 a4 a5 a6) (fun f s2 h2 => fin _ _ _ s2 f rfl a7 h2) (by intro _ _ e; exact e)
    | esc a1 a2 a3 a4 a5 a6 a7 a8 =>
      (repeat' (first | (k_unfold; (try dsimp only)) | (k_end; wrow_close) | ((fail_if_success (with_reducible show _ = _ ∧ _)); (fail_if_success (with_reducible show wpAny _ _ (execs (Stmt.Assign [PySem.Expr.Name (PySem.Str.ofString "size") _] _ _ :: _) _) _ _ _)); (fail_if_success (with_reducible show wpAny _ _ (execs (tkRet _) _) _ _ _)); walk1) | ((fail_if_success (with_reducible show _ = _ ∧ _)); (fail_if_success (with_reducible show wpAny _ _ (execs (Stmt.Assign [PySem.Expr.Name (PySem.Str.ofString "size") _] _ _ :: _) _) _ _ _)); (fail_if_success (with_reducible show wpAny _ _ (execs (tkRet _) _) _ _ _)); dsimp only; walk1) | (leave1; walk_say "STEP leave1"; try dsimp only) | fail "no step"))
      refine wpAny_mono (show wpAny _ _ (execs (tkTurn w.params) (tkEnv w.params Lf)) _ _ _ from tk_esc rfl (by k_asm) (by k_asm) XG TG dR hlr hne (by omega) a1 e2 a3 a4 a5 a6 a7) (fun f s2 h2 => fin _ _ _ s2 f rfl a8 h2) (by intro _ _ e; exact e)
    | range a1 a2 a3 a4 a5 a6 a7 a8 a9 a10 =>
      (repeat' (first | (k_unfold; (try dsimp only)) | (k_end; wrow_close) | ((fail_if_success (with_reducible show _ = _ ∧ _)); (fail_if_success (with_reducible show wpAny _ _ (execs (Stmt.Assign [PySem.Expr.Name (PySem.Str.ofString "size") _] _ _ :: _) _) _ _ _)); (fail_if_success (with_reducible show wpAny _ _ (execs (tkRet _) _) _ _ _)); walk1) | ((fail_if_success (with_reducible show _ = _ ∧ _)); (fail_if_success (with_reducible show wpAny _ _ (execs (Stmt.Assign [PySem.Expr.Name (PySem.Str.ofString "size") _] _ _ :: _) _) _ _ _)); (fail_if_success (with_reducible show wpAny _ _ (execs (tkRet _) _) _ _ _)); dsimp only; walk1) | (leave1; walk_say "STEP leave1"; try dsimp only) | fail "no step"))
      refine wpAny_mono (show wpAny _ _ (execs (tkTurn w.params) (tkEnv w.params Lf)) _ _ _ from tk_range rfl (by k_asm) (by k_asm) XG TG dR hlr hne (by omega) a1 e2 a3 a4 a5 a6 a7 a8 a9) (fun f s2 h2 => fin _ _ _ s2 f rfl a10 h2) (by intro _ _ e; exact e)

end
-- T24
section
theorem fillT24 : PySem.Challenge.rw_ij0118_01 = PySem.Challenge.rw_ij0118_01 ∧ hd.heap_1 = hd.heap_1 := by
  k_fill
  exact ⟨rfl, rfl⟩

theorem itm {S c : Str} {i : Int} (h : (0 ≤ i ∧ i < S.length) ∧ Txt.item S i = c) : ItemAt S i c := ⟨h.1.1, h.1.2, h.2⟩

theorem taken0 {w loose mean mg mb} (t : Tok) : Spec w loose mean mg mb 340 40 123 (fun _ => True) [.str (PT 0) t] (fun _ r => ∃ t', r = .str (KD 0) t') := by
  intro dp un gd cn cs a ccd cl outer A₀ base h₀ L m news s Q E hdp hun B F X N T hk _ hret
  refine around_le (A' := ktrTop 340 40 gd cn cs L a ccd cl outer) rfl hdp rfl rfl hun ?_
  obtain ⟨k, nm, g, c, mo⟩ := cs
  subst hk
  show wpAny _ _ (call (.ref 123) [.str (Str.ofString ".") t]) _ _ _
  (repeat' (first | (k_unfold; (try dsimp only)) | (k_end; wrow_close) | walk1 | (dsimp only; walk1) | (leave1; walk_say "STEP leave1"; try dsimp only) | fail "no step"))
  refine hret _ [] _ _ (by k_asm) (by rename News h₀ L _ _ => hN0; exact news_perm hN0 (fun p hp => List.Mem.tail _ (List.Mem.tail _ hp))) (fun p hp => nomatch hp) ⟨_, congrArg (fun x => Value.str x _) (by decide +kernel)⟩

theorem taken1 {w loose mean mg mb} (t : Tok) : Spec w loose mean mg mb 340 40 123 (fun _ => True) [.str (PT 1) t] (fun _ r => ∃ t', r = .str (KD 1) t') :=
  taken_brk (PT 1) (Str.ofString "a") (Str.ofString "ab") (KD 1) false [(Str.ofString "a", Str.ofString "a"), (Str.ofString "b", Str.ofString "b")] t (by decide +kernel) (by decide +kernel) (by decide +kernel) (itm (by decide +kernel)) (itm (by decide +kernel)) (by decide +kernel) (by decide +kernel) (.plain (S := Str.ofString "ab") (c := Str.ofString "a") (S' := Str.ofString "b") (by decide +kernel) (by decide +kernel) (itm (by decide +kernel)) (by decide +kernel) (by decide +kernel) (by decide +kernel) (.plain (S := Str.ofString "b") (c := Str.ofString "b") (S' := Str.ofString "") (by decide +kernel) (by decide +kernel) (itm (by decide +kernel)) (by decide +kernel) (by decide +kernel) (by decide +kernel) (.nil))) (by decide) (by decide +kernel) (by decide +kernel)

theorem taken2 {w loose mean mg mb} (t : Tok) : Spec w loose mean mg mb 340 40 123 (fun _ => True) [.str (PT 2) t] (fun _ r => ∃ t', r = .str (KD 2) t') :=
  taken_brk (PT 2) (Str.ofString "^") (Str.ofString "a") (KD 2) true [(Str.ofString "a", Str.ofString "a")] t (by decide +kernel) (by decide +kernel) (by decide +kernel) (itm (by decide +kernel)) (itm (by decide +kernel)) (by decide +kernel) (by decide +kernel) (.plain (S := Str.ofString "a") (c := Str.ofString "a") (S' := Str.ofString "") (by decide +kernel) (by decide +kernel) (itm (by decide +kernel)) (by decide +kernel) (by decide +kernel) (by decide +kernel) (.nil)) (by decide) (by decide +kernel) (by decide +kernel)

theorem taken3 {w loose mean mg mb} (t : Tok) : Spec w loose mean mg mb 340 40 123 (fun _ => True) [.str (PT 3) t] (fun _ r => ∃ t', r = .str (KD 3) t') :=
  taken_brk (PT 3) (Str.ofString "a") (Str.ofString "a-c") (KD 3) false [(Str.ofString "a", Str.ofString "c")] t (by decide +kernel) (by decide +kernel) (by decide +kernel) (itm (by decide +kernel)) (itm (by decide +kernel)) (by decide +kernel) (by decide +kernel) (.range (S := Str.ofString "a-c") (c := Str.ofString "a") (c2 := Str.ofString "c") (S' := Str.ofString "") (by decide +kernel) (by decide +kernel) (itm (by decide +kernel)) (by decide +kernel) (by decide +kernel) (itm (by decide +kernel)) (by decide +kernel) (by decide +kernel) (by decide +kernel) (.nil)) (by decide) (by decide +kernel) (by decide +kernel)

theorem taken4 {w loose mean mg mb} (t : Tok) : Spec w loose mean mg mb 340 40 123 (fun _ => True) [.str (PT 4) t] (fun _ r => ∃ t', r = .str (KD 4) t') :=
  taken_brk (PT 4) (Str.ofString "c") (Str.ofString "c\\-") (KD 4) false [(Str.ofString "c", Str.ofString "c"), (Str.ofString "-", Str.ofString "-")] t (by decide +kernel) (by decide +kernel) (by decide +kernel) (itm (by decide +kernel)) (itm (by decide +kernel)) (by decide +kernel) (by decide +kernel) (.plain (S := Str.ofString "c\\-") (c := Str.ofString "c") (S' := Str.ofString "\\-") (by decide +kernel) (by decide +kernel) (itm (by decide +kernel)) (by decide +kernel) (by decide +kernel) (by decide +kernel) (.esc (S := Str.ofString "\\-") (c := Str.ofString "\\") (c2 := Str.ofString "-") (S' := Str.ofString "") (by decide +kernel) (by decide +kernel) (itm (by decide +kernel)) (by decide +kernel) (itm (by decide +kernel)) (by decide +kernel) (by decide +kernel) (.nil))) (by decide) (by decide +kernel) (by decide +kernel)

theorem taken5 {w loose mean mg mb} (t : Tok) : Spec w loose mean mg mb 340 40 123 (fun _ => True) [.str (PT 5) t] (fun _ r => ∃ t', r = .str (KD 5) t') :=
  taken_brk (PT 5) (Str.ofString "^") (Str.ofString "\\-b") (KD 5) true [(Str.ofString "-", Str.ofString "-"), (Str.ofString "b", Str.ofString "b")] t (by decide +kernel) (by decide +kernel) (by decide +kernel) (itm (by decide +kernel)) (itm (by decide +kernel)) (by decide +kernel) (by decide +kernel) (.esc (S := Str.ofString "\\-b") (c := Str.ofString "\\") (c2 := Str.ofString "-") (S' := Str.ofString "b") (by decide +kernel) (by decide +kernel) (itm (by decide +kernel)) (by decide +kernel) (itm (by decide +kernel)) (by decide +kernel) (by decide +kernel) (.plain (S := Str.ofString "b") (c := Str.ofString "b") (S' := Str.ofString "") (by decide +kernel) (by decide +kernel) (itm (by decide +kernel)) (by decide +kernel) (by decide +kernel) (by decide +kernel) (.nil))) (by decide) (by decide +kernel) (by decide +kernel)

theorem taken6 {w loose mean mg mb} (t : Tok) : Spec w loose mean mg mb 340 40 123 (fun _ => True) [.str (PT 6) t] (fun _ r => ∃ t', r = .str (KD 6) t') := by
  intro dp un gd cn cs a ccd cl outer A₀ base h₀ L m news s Q E hdp hun B F X N T hk _ hret
  refine around_le (A' := ktrTop 340 40 gd cn cs L a ccd cl outer) rfl hdp rfl rfl hun ?_
  obtain ⟨k, nm, g, c, mo⟩ := cs
  subst hk
  show wpAny _ _ (call (.ref 123) [.str (Str.ofString "c") t]) _ _ _
  (repeat' (first | (k_unfold; (try dsimp only)) | (k_end; wrow_close) | walk1 | (dsimp only; walk1) | (leave1; walk_say "STEP leave1"; try dsimp only) | fail "no step"))
  refine hret _ [] _ _ (by k_asm) (by rename News h₀ L _ _ => hN0; exact news_perm hN0 (fun p hp => List.Mem.tail _ (List.Mem.tail _ hp))) (fun p hp => nomatch hp) ⟨_, congrArg (fun x => Value.str x _) (by decide +kernel)⟩

theorem taken7 {w loose mean mg mb} (t : Tok) : Spec w loose mean mg mb 340 40 123 (fun _ => True) [.str (PT 7) t] (fun _ r => ∃ t', r = .str (KD 7) t') := by
  intro dp un gd cn cs a ccd cl outer A₀ base h₀ L m news s Q E hdp hun B F X N T hk _ hret
  refine around_le (A' := ktrTop 340 40 gd cn cs L a ccd cl outer) rfl hdp rfl rfl hun ?_
  obtain ⟨k, nm, g, c, mo⟩ := cs
  subst hk
  show wpAny _ _ (call (.ref 123) [.str (Str.ofString ".") t]) _ _ _
  (repeat' (first | (k_unfold; (try dsimp only)) | (k_end; wrow_close) | walk1 | (dsimp only; walk1) | (leave1; walk_say "STEP leave1"; try dsimp only) | fail "no step"))
  refine hret _ [] _ _ (by k_asm) (by rename News h₀ L _ _ => hN0; exact news_perm hN0 (fun p hp => List.Mem.tail _ (List.Mem.tail _ hp))) (fun p hp => nomatch hp) ⟨_, congrArg (fun x => Value.str x _) (by decide +kernel)⟩

theorem taken8 {w loose mean mg mb} (t : Tok) : Spec w loose mean mg mb 340 40 123 (fun _ => True) [.str (PT 8) t] (fun _ r => ∃ t', r = .str (KD 8) t') :=
  taken_brk (PT 8) (Str.ofString "^") (Str.ofString "a-b") (KD 8) true [(Str.ofString "a", Str.ofString "b")] t (by decide +kernel) (by decide +kernel) (by decide +kernel) (itm (by decide +kernel)) (itm (by decide +kernel)) (by decide +kernel) (by decide +kernel) (.range (S := Str.ofString "a-b") (c := Str.ofString "a") (c2 := Str.ofString "b") (S' := Str.ofString "") (by decide +kernel) (by decide +kernel) (itm (by decide +kernel)) (by decide +kernel) (by decide +kernel) (itm (by decide +kernel)) (by decide +kernel) (by decide +kernel) (by decide +kernel) (.nil)) (by decide) (by decide +kernel) (by decide +kernel)

theorem taken9 {w loose mean mg mb} (t : Tok) : Spec w loose mean mg mb 340 40 123 (fun _ => True) [.str (PT 9) t] (fun _ r => ∃ t', r = .str (KD 9) t') := by
  intro dp un gd cn cs a ccd cl outer A₀ base h₀ L m news s Q E hdp hun B F X N T hk _ hret
  refine around_le (A' := ktrTop 340 40 gd cn cs L a ccd cl outer) rfl hdp rfl rfl hun ?_
  obtain ⟨k, nm, g, c, mo⟩ := cs
  subst hk
  show wpAny _ _ (call (.ref 123) [.str (Str.ofString "(?!)") t]) _ _ _
  (repeat' (first | (k_unfold; (try dsimp only)) | (k_end; wrow_close) | walk1 | (dsimp only; walk1) | (leave1; walk_say "STEP leave1"; try dsimp only) | fail "no step"))
  refine hret _ [] _ _ (by k_asm) (by rename News h₀ L _ _ => hN0; exact news_perm hN0 (fun p hp => List.Mem.tail _ (List.Mem.tail _ hp))) (fun p hp => nomatch hp) ⟨_, congrArg (fun x => Value.str x _) (by decide +kernel)⟩

theorem taken10 {w loose mean mg mb} (t : Tok) : Spec w loose mean mg mb 340 40 123 (fun _ => True) [.str (PT 10) t] (fun _ r => ∃ t', r = .str (KD 10) t') := by
  intro dp un gd cn cs a ccd cl outer A₀ base h₀ L m news s Q E hdp hun B F X N T hk _ hret
  refine around_le (A' := ktrTop 340 40 gd cn cs L a ccd cl outer) rfl hdp rfl rfl hun ?_
  obtain ⟨k, nm, g, c, mo⟩ := cs
  subst hk
  show wpAny _ _ (call (.ref 123) [.str (Str.ofString "\\-") t]) _ _ _
  (repeat' (first | (k_unfold; (try dsimp only)) | (k_end; wrow_close) | walk1 | (dsimp only; walk1) | (leave1; walk_say "STEP leave1"; try dsimp only) | fail "no step"))
  refine hret _ [] _ _ (by k_asm) (by rename News h₀ L _ _ => hN0; exact news_perm hN0 (fun p hp => List.Mem.tail _ (List.Mem.tail _ hp))) (fun p hp => nomatch hp) ⟨_, congrArg (fun x => Value.str x _) (by decide +kernel)⟩

theorem taken_spec {w loose mean mg mb} (n : Nat) (hn : n < 11) (t : Tok) : Spec w loose mean mg mb 340 40 123 (fun _ => True) [.str (PT n) t] (fun _ r => ∃ t', r = .str (KD n) t') := by
  rcases ((show ∀ n, n < 11 → (n = 0 ∨ n = 1 ∨ n = 2 ∨ n = 3 ∨ n = 4 ∨ n = 5 ∨ n = 6 ∨ n = 7 ∨ n = 8 ∨ n = 9 ∨ n = 10) by decide +kernel) n (by assumption)) with rfl | rfl | rfl | rfl | rfl | rfl | rfl | rfl | rfl | rfl | rfl
  · exact taken0 t
  · exact taken1 t
  · exact taken2 t
  · exact taken3 t
  · exact taken4 t
  · exact taken5 t
  · exact taken6 t
  · exact taken7 t
  · exact taken8 t
  · exact taken9 t
  · exact taken10 t

end
-- T31
section
theorem fillT30 : PySem.Challenge.rw_ij0118_01 = PySem.Challenge.rw_ij0118_01 ∧ hd.heap_1 = hd.heap_1 := by
  k_fill
  exact ⟨rfl, rfl⟩

noncomputable def lawFn (P : Params) : List Stmt × Scope := fnOfK (hd.heap_1 P) 140
noncomputable abbrev lawEnv (P : Params) (L fa : Addr) (cd : Value) : Env := envOfC (Str.ofString "law") (lawFn P).2 L fa cd
noncomputable abbrev lawA (P : Params) (L fa : Addr) (cd : Value) : Around := callerA.deeper (lawEnv P L fa cd)

end
local macro_rules | `(tactic| walk_at "subscriptTail Name Slice ref ref") => `(tactic| (k_here; (with_reducible show wpAny _ _ (subscriptTail _ (PySem.Expr.Slice _ _ none _) (Value.ref _) (Value.ref _)) _ _ _); k_dflt (refine' kmk_slice_ints ?F ?N ?l ?p ?q ?i ?m ?c ?_ ?s ?t ?z; (case F => k_asm); (case N => k_asm); (case l => kmk_list); (case p => kmk_part); (case q => kmk_part); (case i => l_ints); (case m => (first | ((with_reducible refine' kmk_upto ?ma ?mb); (case ma => l_ints); (case mb => decide)) | ((with_reducible refine' kmk_from ?ma ?mb); (case ma => l_ints); (case mb => exact Int.natCast_nonneg _)))); (case c => kmk_len); (case s => with_unfolding_all rfl); (case t => kmk_pure); (case z => kmk_size)); intro D' ws' h' F' N' l1 hI' hC' hL'; (try simp only [Int.reduceNeg, Int.neg_neg, Int.reduceToNat] at hI' hC' hL'); (try k_lt l1); (try k_sweep)))
section
theorem news_allLt {d : Addr} {l : List (Addr × Obj)} (h : AllLt d l) : ∀ q ∈ l, @LT.lt Nat _ q.1 d := fun q hq => allLt_all h q hq
/-- the numbers that the law draws -/
noncomputable def numsOf (ns : List Int) : List Int := (ns.take 4).map (fun k => k.fmod (10 ^ 6)) ++ [738, 585, 796].drop (ns.take 4).length
theorem numsOf_len (ns : List Int) : 3 ≤ (numsOf ns).length ∧ (numsOf ns).length ≤ 4 := by
  unfold numsOf
  rw [List.length_append, List.length_map, List.length_drop, List.length_take]
  show 3 ≤ min 4 ns.length + (3 - min 4 ns.length) ∧ min 4 ns.length + (3 - min 4 ns.length) ≤ 4
  omega
theorem numsOf_range (ns : List Int) : ∀ n ∈ numsOf ns, 0 ≤ n ∧ n < 10 ^ 6 := by
  intro n hn
  rcases List.mem_append.mp hn with h | h
  · obtain ⟨k, _, rfl⟩ := List.mem_map.mp h
    exact ⟨Int.fmod_nonneg_of_pos _ (by decide), Int.fmod_lt_of_pos _ (by decide)⟩
  · have := List.mem_of_mem_drop h
    simp only [List.mem_cons, List.not_mem_nil, or_false] at this
    rcases this with rfl | rfl | rfl <;> decide
inductive PostB (s : Shared) (H : Heap) (L : Addr) (m9 : Str → Option Value) (led : List (Addr × Obj)) (ns : List Int) (f : Flow) (s' : Shared) : Prop
  | mk : (f = .next) → ∀ h' tk m' ln nv, (s' = { s with heap := h', toks := tk }) → (Fr H L h' m') → (News H L h' ((ln, listOf nv.toArray 0) :: led)) → (IntsAre nv (numsOf ns)) → (m' (Str.ofString "numbers") = some (.ref ln)) → ((∀ y, y ≠ Str.ofString "numbers" → y ≠ Str.ofString "drawn" → m' y = m9 y)) → ((∀ q ∈ led, @LT.lt Nat _ q.1 ln)) → PostB s H L m9 led ns f s'
section
variable {w : World} {E : Value → Shared → Prop} {s : Shared} {H : Heap} {L fa a : Addr} {cd : Value} {m9 : Str → Option Value} {vs : List Value} {ns : List Int} {loose : List Str} {mean : ExcName → Option Value} {mg mb : Str → Option Value} {Q : Flow → Shared → Prop} {led : List (Addr × Obj)}
theorem law_b
    (F : Fr H L s.heap m9) (N : News H L s.heap led) (X : (hd.heap_1 w.params).In H) (T : Top topProg loose mean mg mb H) (K : Below callerA H [] H)
    (p1 : m9 (Str.ofString "script") = some (.ref a)) (hL : H.IsList a vs.toArray) (hI : IntsAre vs ns) (hlen : ns.length ≤ 63) (l0 : @LT.lt Nat _ 54 L ∧ @LT.lt Nat _ 47 L ∧ @LT.lt Nat _ 99 L) :
    wpAny (model PySem.Challenge.rw_ij0118_01.row.prog w) (lawA w.params L fa cd) (execs (((lawFn w.params).1.drop 1).take 2) (lawEnv w.params L fa cd)) (PostB s H L m9 led ns) E s := by
  iterate 2 (first | walk1 | (dsimp only; walk1) | skip)
  (repeat' (first | (k_unfold; (try dsimp only)) | ((fail_if_success (with_reducible show wpAny _ _ (call (Value.ref _) _) _ _ _)); walk1) | ((fail_if_success (show wpAny _ _ (call (Value.ref _) _) _ _ _)); dsimp only; walk1) | fail "no step"))
  rename_i l1 _ _ _ _ _ _ _ _ _ _ _ _ _ _ o1 _ _ l2 _ _ _ _ _ _ l3 Dn nv9 _ hI9 l4 _ F9 N9
  refine wpAny_execs_nil (show PostB s H L m9 led ns .next _ from ⟨rfl, _, _, _, Dn, nv9, rfl, F9, news_perm N9 ?_, ?_, rfl, fun y g1 g2 => by simp only [g1, g2, if_false], news_allLt l4.2.2.2.2⟩)
  · intro p hp
    rcases List.mem_cons.mp hp with rfl | hp
    · exact .head _
    · exact .tail _ (.tail _ (.tail _ (.tail _ (.tail _ hp))))
  · unfold numsOf
    simpa using hI9
end

end
-- T32
section
theorem fillT32 : PySem.Challenge.rw_ij0118_01 = PySem.Challenge.rw_ij0118_01 ∧ hd.heap_1 = hd.heap_1 := by
  k_fill
  exact ⟨rfl, rfl⟩


noncomputable def TXs : List Str := [TX 0, TX 1, TX 2, TX 3, TX 4, TX 5, TX 6, TX 7, TX 8, TX 9, TX 10]
noncomputable def KDs : List Str := [KD 0, KD 1, KD 2, KD 3, KD 4, KD 5, KD 6, KD 7, KD 8, KD 9, KD 10]
theorem TXs_at : ∀ i, i < 11 → TXs[i]? = some (TX i) := by decide +kernel
theorem KDs_at : ∀ i, i < 11 → KDs[i]? = some (KD i) := by decide +kernel
/-- the ledger behind the first statement -/
noncomputable abbrev ledA (L lt lk : Addr) (et ek : Nat) (tv kv : List Value) (oT oK c3 c4 : Obj) : List (Addr × Obj) :=
  [(lk, listOf kv.toArray ek), (lt, listOf tv.toArray et), (L + 1 + 1 + 1 + 1, c4), (L + 1 + 1 + 1, c3), (L + 1 + 1, oK), (L + 1, oT), (54, tabObj #[]), (47, tabObj #[]), (99, tabObj #[])]
inductive PostA (s : Shared) (H : Heap) (L : Addr) (m9 : Str → Option Value) (c3 c4 : Obj) (f : Flow) (s' : Shared) : Prop
  | mk : (f = .next) → ∀ h' tk lt lk et ek tv kv oT oK, (s' = { s with heap := h', toks := tk }) → (Fr H L h' m9) → (News H L h' (ledA L lt lk et ek tv kv oT oK c3 c4)) → (StrsAre tv TXs) → (StrsAre kv KDs) → (oT.data = .cell (some (.ref lt))) → (oK.data = .cell (some (.ref lk))) → (@LT.lt Nat _ (L + 1 + 1 + 1 + 1) lt) → (@LT.lt Nat _ lt lk) → (@LT.lt Nat _ 99 lt) → PostA s H L m9 c3 c4 f s'
section
variable {w : World} {E : Value → Shared → Prop} {s : Shared} {H : Heap} {L fa : Addr} {cd : Value} {m9 : Str → Option Value} {loose : List Str} {mean : ExcName → Option Value} {mg mb : Str → Option Value} {c1 c2 c3 c4 : Obj} {v1 v2 : Option Value}
theorem law_a
    (F : Fr H L s.heap m9) (N : News H L s.heap [(L + 1 + 1 + 1 + 1, c4), (L + 1 + 1 + 1, c3), (L + 1 + 1, c2), (L + 1, c1), (54, tabObj #[]), (47, tabObj #[]), (99, tabObj #[])]) (X : (hd.heap_1 w.params).In H) (T : Top topProg loose mean mg mb H) (K : Below callerA H [] H)
    (d1 : c1.data = .cell v1) (d2 : c2.data = .cell v2) (l0 : @LT.lt Nat _ 54 L ∧ @LT.lt Nat _ 47 L ∧ @LT.lt Nat _ 99 L) :
    wpAny (model PySem.Challenge.rw_ij0118_01.row.prog w) (lawA w.params L fa cd) (execs ((lawFn w.params).1.take 1) (lawEnv w.params L fa cd)) (PostA s H L m9 c3 c4) E s := by
  iterate 2 (first | walk1 | (dsimp only; walk1) | skip)
  (repeat' (first | (k_unfold; (try dsimp only)) | ((fail_if_success (with_reducible show wpAny _ _ (call (Value.ref _) _) _ _ _)); walk1) | ((fail_if_success (show wpAny _ _ (call (Value.ref _) _) _ _ _)); dsimp only; walk1) | fail "no step"))
  walk1
  (repeat' (first | (k_unfold; (try dsimp only)) | ((fail_if_success (with_reducible show wpAny _ _ (call (Value.ref _) _) _ _ _)); walk1) | ((fail_if_success (show wpAny _ _ (call (Value.ref _) _) _ _ _)); dsimp only; walk1) | fail "no step"))
  rename_i tk1 lt _ ll1 _ tk2 lk _ ll2 _ D _ _ _ ll3 _ _ _ _ oT dT _ oK F9 N9 dK
  refine wpAny_execs_nil (show PostA s H L m9 c3 c4 .next _ from ⟨rfl, _, _, lt, lk, 0, 0, [.str (Str.ofString "?") (tk1), .str (Str.ofString "[ab]") (tk1 + 1), .str (Str.ofString "[!a]") (tk1 + 1 + 1), .str (Str.ofString "[a-c]") (tk1 + 1 + 1 + 1), .str (Str.ofString "[c-]") (tk1 + 1 + 1 + 1 + 1), .str (Str.ofString "[!-b]") (tk1 + 1 + 1 + 1 + 1 + 1), .str (Str.ofString "c") (tk1 + 1 + 1 + 1 + 1 + 1 + 1), .str (Str.ofString "[!b-a]") (tk1 + 1 + 1 + 1 + 1 + 1 + 1 + 1), .str (Str.ofString "[!a-b]") (tk1 + 1 + 1 + 1 + 1 + 1 + 1 + 1 + 1), .str (Str.ofString "[b-a]") (tk1 + 1 + 1 + 1 + 1 + 1 + 1 + 1 + 1 + 1), .str (Str.ofString "-") (tk1 + 1 + 1 + 1 + 1 + 1 + 1 + 1 + 1 + 1 + 1)], [.str (Str.ofString "-abc") (tk2), .str (Str.ofString "ab") (tk2 + 1), .str (Str.ofString "-bc") (tk2 + 1 + 1), .str (Str.ofString "abc") (tk2 + 1 + 1 + 1), .str (Str.ofString "-c") (tk2 + 1 + 1 + 1 + 1), .str (Str.ofString "ac") (tk2 + 1 + 1 + 1 + 1 + 1), .str (Str.ofString "c") (tk2 + 1 + 1 + 1 + 1 + 1 + 1), .str (Str.ofString "-abc") (tk2 + 1 + 1 + 1 + 1 + 1 + 1 + 1), .str (Str.ofString "-c") (tk2 + 1 + 1 + 1 + 1 + 1 + 1 + 1 + 1), .str (Str.ofString "") (tk2 + 1 + 1 + 1 + 1 + 1 + 1 + 1 + 1 + 1), .str (Str.ofString "-") (tk2 + 1 + 1 + 1 + 1 + 1 + 1 + 1 + 1 + 1 + 1)], oT, oK, rfl, F9, news_perm N9 (fun p hp => .tail _ hp), ?_, ?_, dT, dK, ll1.1, ll2.1, ll1.2.2.2.2.2.2⟩)
  · exact (.cons _ _ (.cons _ _ (.cons _ _ (.cons _ _ (.cons _ _ (.cons _ _ (.cons _ _ (.cons _ _ (.cons _ _ (.cons _ _ (.cons _ _ .nil)))))))))))
  · exact (.cons _ _ (.cons _ _ (.cons _ _ (.cons _ _ (.cons _ _ (.cons _ _ (.cons _ _ (.cons _ _ (.cons _ _ (.cons _ _ (.cons _ _ .nil)))))))))))
end

end
-- T33
section
theorem fillT33 : PySem.Challenge.rw_ij0118_01 = PySem.Challenge.rw_ij0118_01 ∧ hd.heap_1 = hd.heap_1 := by
  k_fill
  exact ⟨rfl, rfl⟩

theorem item_modK {prog : Program} {w : World} {A : Around} {E : Value → Shared → Prop} {s : Shared} {h₀ : Heap} {L l : Addr} {news : List (Addr × Obj)} {vs : List Value} {e : Nat} {value slice : PySem.Expr} {k : Int} {u : Tok} {v : Value} {Q : Value → Shared → Prop} (N : News h₀ L s.heap news) (hm : (l, listOf vs.toArray e) ∈ news) (hk : 0 ≤ k ∧ k < 1000) (hv : vs[k.toNat]? = some v) (h : Q v s)
    (hs : subscripted slice false (.ref l) (.int k u) = operate [.ref l, .int k u] (getItem (.ref l) (.int k u)) := by with_unfolding_all rfl) (hg : ∀ r, letTemporaryGo value (.ref l) r = pure () := by intro _; with_unfolding_all rfl) :
    wpAny (model prog w) A (subscriptTail value slice (.ref l) (.int k u)) Q E s :=
  item_list (led_list N hm) hk.1 (by omega) (by simpa using hv) h hs hg
/-- the item of a number -/
noncomputable def ofN (n : Int) : Nat := (n.fmod 11).toNat
theorem ofN_lt (n : Int) : ofN n < 11 := by
  have h0 := Int.fmod_nonneg_of_pos n (show (0 : Int) < 11 by decide)
  have h1 := Int.fmod_lt_of_pos n (show (0 : Int) < 11 by decide)
  unfold ofN; omega
noncomputable def itemsOf (xs : List Int) : List Nat := xs.map ofN
theorem itemsOf_lt (xs : List Int) : ∀ i ∈ itemsOf xs, i < 11 := by
  intro i hi
  obtain ⟨n, _, rfl⟩ := List.mem_map.mp hi
  exact ofN_lt n
inductive PostC (s : Shared) (H : Heap) (L : Addr) (m9 : Str → Option Value) (led : List (Addr × Obj)) (P : Str) (f : Flow) (s' : Shared) : Prop
  | mk : (f = .next) → ∀ h' tk m' t', (s' = { s with heap := h', toks := tk }) → (Fr H L h' m') → (News H L h' led) → (m' (Str.ofString "pattern") = some (.str P t')) → ((∀ y, y ≠ Str.ofString "pattern" → m' y = m9 y)) → PostC s H L m9 led P f s'
section
variable {w : World} {E : Value → Shared → Prop} {s : Shared} {H : Heap} {L fa ln lt lk : Addr} {cd : Value} {m9 : Str → Option Value} {loose : List Str} {mean : ExcName → Option Value} {mg mb : Str → Option Value} {oT oK : Obj} {led : List (Addr × Obj)} {nv tv kv : List Value} {en et ek : Nat} {xs : List Int}
theorem law_c
    (F : Fr H L s.heap m9) (N : News H L s.heap led) (X : (hd.heap_1 w.params).In H) (T : Top topProg loose mean mg mb H)
    (hn : (ln, listOf nv.toArray en) ∈ led) (ht : (lt, listOf tv.toArray et) ∈ led) (hc : (L + 1, oT) ∈ led) (dT : oT.data = .cell (some (.ref lt))) (htv : StrsAre tv TXs) (hxs : IntsAre nv xs) (hxr : ∀ x ∈ xs, 0 ≤ x ∧ x < 10 ^ 6) (hxl : xs.length ≤ 4) (p1 : m9 (Str.ofString "numbers") = some (.ref ln)) :
    wpAny (model PySem.Challenge.rw_ij0118_01.row.prog w) (lawA w.params L fa cd) (execs (((lawFn w.params).1.drop 3).take 1) (lawEnv w.params L fa cd)) (PostC s H L m9 led (catS ((itemsOf xs).map TX))) E s := by
  iterate 2 (first | walk1 | (dsimp only; walk1) | skip)
  (repeat' (first | (k_unfold; (try dsimp only)) | ((with_reducible show wpAny _ _ (subscriptTail _ (PySem.Expr.BinOp _ _ _ _) (Value.ref _) (Value.int _ _)) _ _ _); (first | with_reducible ((k_here; (k_dflt refine' item_modK ?i1 ?i2 ?i3 ?i4 ?_ ?i5 ?i6); (case i1 => k_asm); (case i2 => k_mem); (case i3 => assumption); (case i4 => assumption); (case i5 => k_dflt with_unfolding_all rfl); (case i6 => k_dflt (intro _; with_unfolding_all rfl)))) | ((k_here; (k_dflt refine' item_modK ?i1 ?i2 ?i3 ?i4 ?_ ?i5 ?i6); (case i1 => k_asm); (case i2 => k_mem); (case i3 => assumption); (case i4 => assumption); (case i5 => k_dflt with_unfolding_all rfl); (case i6 => k_dflt (intro _; with_unfolding_all rfl)))))) | ((fail_if_success (with_reducible show wpAny _ _ (eval (PySem.Expr.ListComp _ _ _ _) _) _ _ _)); (fail_if_success (with_reducible show _ = _ ∧ _)); (fail_if_success (with_reducible show CompEnd _ _ _ _ _ _ _ _ _ _ _ _ _ _)); walk1) | ((fail_if_success (show wpAny _ _ (eval (PySem.Expr.ListComp _ _ _ _) _) _ _ _)); (fail_if_success (with_reducible show _ = _ ∧ _)); (fail_if_success (with_reducible show CompEnd _ _ _ _ _ _ _ _ _ _ _ _ _ _)); dsimp only; walk1) | fail "no step"))
  have hnl : nv.length = xs.length := hxs.length
  refine compG_K (vs := nv) (e := en) (ax := ln) (fun i ys nw => nw = led ∧ StrsAre ys ((itemsOf (xs.take i)).map TX)) (by k_asm) N hn rfl (by omega) (by with_unfolding_all rfl) (by decide) rfl (by decide) rfl ?_ ⟨rfl, .nil⟩ ?_ ?_
  · (repeat' (first | (k_unfold; (try dsimp only)) | ((with_reducible show wpAny _ _ (subscriptTail _ (PySem.Expr.BinOp _ _ _ _) (Value.ref _) (Value.int _ _)) _ _ _); (first | with_reducible ((k_here; (k_dflt refine' item_modK ?i1 ?i2 ?i3 ?i4 ?_ ?i5 ?i6); (case i1 => k_asm); (case i2 => k_mem); (case i3 => assumption); (case i4 => assumption); (case i5 => k_dflt with_unfolding_all rfl); (case i6 => k_dflt (intro _; with_unfolding_all rfl)))) | ((k_here; (k_dflt refine' item_modK ?i1 ?i2 ?i3 ?i4 ?_ ?i5 ?i6); (case i1 => k_asm); (case i2 => k_mem); (case i3 => assumption); (case i4 => assumption); (case i5 => k_dflt with_unfolding_all rfl); (case i6 => k_dflt (intro _; with_unfolding_all rfl)))))) | ((fail_if_success (with_reducible show wpAny _ _ (eval (PySem.Expr.ListComp _ _ _ _) _) _ _ _)); (fail_if_success (with_reducible show _ = _ ∧ _)); (fail_if_success (with_reducible show CompEnd _ _ _ _ _ _ _ _ _ _ _ _ _ _)); walk1) | ((fail_if_success (show wpAny _ _ (eval (PySem.Expr.ListComp _ _ _ _) _) _ _ _)); (fail_if_success (with_reducible show _ = _ ∧ _)); (fail_if_success (with_reducible show CompEnd _ _ _ _ _ _ _ _ _ _ _ _ _ _)); dsimp only; walk1) | fail "no step"))
    exact ⟨rfl, rfl⟩
  · rintro g i ys nw v I oI C oC D m₂ h tk E' hv ⟨rfl, hys⟩ hS hC hmx F' N' off hne
    obtain ⟨x, tx, rfl, hx⟩ := hxs.at i v hv
    have hb := hxr x (List.mem_of_getElem? hx)
    have hCn : h.Ns C m₂ := hC.ns (N' _ (.tail _ (.head _))).1
    have N2 : News H L h ((lt, listOf tv.toArray et) :: (L + 1, oT) :: nw) := fun p hp => by
      rcases List.mem_cons.mp hp with rfl | hp
      · exact N' _ (.tail _ (.tail _ (.tail _ ht)))
      rcases List.mem_cons.mp hp with rfl | hp
      · exact N' _ (.tail _ (.tail _ (.tail _ hc)))
      · exact N' _ (.tail _ (.tail _ (.tail _ hp)))
    have hk : 0 ≤ x.fmod 11 ∧ x.fmod 11 < 1000 := by
      have h0 := Int.fmod_nonneg_of_pos x (show (0 : Int) < 11 by decide)
      have h1 := Int.fmod_lt_of_pos x (show (0 : Int) < 11 by decide)
      omega
    obtain ⟨u, hu⟩ : ∃ u, tv[(x.fmod 11).toNat]? = some (.str (TX (ofN x)) u) := by
      obtain ⟨p, u, hp⟩ := strsAt htv (k := ofN x) (by rw [htv.len_eq]; exact ofN_lt x)
      have h2 := htv.item (ofN x) _ hp
      obtain ⟨y, t2, e1, e2⟩ := h2
      rw [TXs_at _ (ofN_lt x)] at e2
      cases e1
      cases e2
      exact ⟨_, hp⟩
    (repeat' (first | (k_unfold; (try dsimp only)) | ((with_reducible show wpAny _ _ (subscriptTail _ (PySem.Expr.BinOp _ _ _ _) (Value.ref _) (Value.int _ _)) _ _ _); (first | with_reducible ((k_here; (k_dflt refine' item_modK ?i1 ?i2 ?i3 ?i4 ?_ ?i5 ?i6); (case i1 => k_asm); (case i2 => k_mem); (case i3 => assumption); (case i4 => assumption); (case i5 => k_dflt with_unfolding_all rfl); (case i6 => k_dflt (intro _; with_unfolding_all rfl)))) | ((k_here; (k_dflt refine' item_modK ?i1 ?i2 ?i3 ?i4 ?_ ?i5 ?i6); (case i1 => k_asm); (case i2 => k_mem); (case i3 => assumption); (case i4 => assumption); (case i5 => k_dflt with_unfolding_all rfl); (case i6 => k_dflt (intro _; with_unfolding_all rfl)))))) | ((fail_if_success (with_reducible show wpAny _ _ (eval (PySem.Expr.ListComp _ _ _ _) _) _ _ _)); (fail_if_success (with_reducible show _ = _ ∧ _)); (fail_if_success (with_reducible show CompEnd _ _ _ _ _ _ _ _ _ _ _ _ _ _)); walk1) | ((fail_if_success (show wpAny _ _ (eval (PySem.Expr.ListComp _ _ _ _) _) _ _ _)); (fail_if_success (with_reducible show _ = _ ∧ _)); (fail_if_success (with_reducible show CompEnd _ _ _ _ _ _ _ _ _ _ _ _ _ _)); dsimp only; walk1) | fail "no step"))
    refine ⟨h, _, nw, rfl, F', N', off, hS, rfl, ?_⟩
    rw [List.take_add_one, hx]
    unfold itemsOf at hys ⊢
    rw [List.map_append, List.map_append]
    exact hys.append' (.cons _ _ .nil)
  · rintro D h tk ys nw F' N' o1 ⟨rfl, hys⟩
    rw [hnl, List.take_length] at hys
    have hz : (catS ((itemsOf xs).map TX)).length ≤ 1000 := by
      have h1 := catS_le (itemsOf xs) (itemsOf_lt xs)
      have h2 : (itemsOf xs).length = xs.length := List.length_map _
      omega
    have hyl : ys.length ≤ 1000 := by rw [hys.len_eq, List.length_map]; unfold itemsOf; rw [List.length_map]; omega
    (repeat' (first | (k_unfold; (try dsimp only)) | ((with_reducible show wpAny _ _ (subscriptTail _ (PySem.Expr.BinOp _ _ _ _) (Value.ref _) (Value.int _ _)) _ _ _); (first | with_reducible ((k_here; (k_dflt refine' item_modK ?i1 ?i2 ?i3 ?i4 ?_ ?i5 ?i6); (case i1 => k_asm); (case i2 => k_mem); (case i3 => assumption); (case i4 => assumption); (case i5 => k_dflt with_unfolding_all rfl); (case i6 => k_dflt (intro _; with_unfolding_all rfl)))) | ((k_here; (k_dflt refine' item_modK ?i1 ?i2 ?i3 ?i4 ?_ ?i5 ?i6); (case i1 => k_asm); (case i2 => k_mem); (case i3 => assumption); (case i4 => assumption); (case i5 => k_dflt with_unfolding_all rfl); (case i6 => k_dflt (intro _; with_unfolding_all rfl)))))) | ((fail_if_success (with_reducible show wpAny _ _ (eval (PySem.Expr.ListComp _ _ _ _) _) _ _ _)); (fail_if_success (with_reducible show _ = _ ∧ _)); (fail_if_success (with_reducible show CompEnd _ _ _ _ _ _ _ _ _ _ _ _ _ _)); walk1) | ((fail_if_success (show wpAny _ _ (eval (PySem.Expr.ListComp _ _ _ _) _) _ _ _)); (fail_if_success (with_reducible show _ = _ ∧ _)); (fail_if_success (with_reducible show CompEnd _ _ _ _ _ _ _ _ _ _ _ _ _ _)); dsimp only; walk1) | fail "no step"))
    refine join_led (vs := ys) (e := ys.length) N' (.head _) hys hz hyl (fun t' k => ?_)
    (repeat' (first | (k_unfold; (try dsimp only)) | ((with_reducible show wpAny _ _ (subscriptTail _ (PySem.Expr.BinOp _ _ _ _) (Value.ref _) (Value.int _ _)) _ _ _); (first | with_reducible ((k_here; (k_dflt refine' item_modK ?i1 ?i2 ?i3 ?i4 ?_ ?i5 ?i6); (case i1 => k_asm); (case i2 => k_mem); (case i3 => assumption); (case i4 => assumption); (case i5 => k_dflt with_unfolding_all rfl); (case i6 => k_dflt (intro _; with_unfolding_all rfl)))) | ((k_here; (k_dflt refine' item_modK ?i1 ?i2 ?i3 ?i4 ?_ ?i5 ?i6); (case i1 => k_asm); (case i2 => k_mem); (case i3 => assumption); (case i4 => assumption); (case i5 => k_dflt with_unfolding_all rfl); (case i6 => k_dflt (intro _; with_unfolding_all rfl)))))) | ((fail_if_success (with_reducible show wpAny _ _ (eval (PySem.Expr.ListComp _ _ _ _) _) _ _ _)); (fail_if_success (with_reducible show _ = _ ∧ _)); (fail_if_success (with_reducible show CompEnd _ _ _ _ _ _ _ _ _ _ _ _ _ _)); walk1) | ((fail_if_success (show wpAny _ _ (eval (PySem.Expr.ListComp _ _ _ _) _) _ _ _)); (fail_if_success (with_reducible show _ = _ ∧ _)); (fail_if_success (with_reducible show CompEnd _ _ _ _ _ _ _ _ _ _ _ _ _ _)); dsimp only; walk1) | fail "no step"))
    refine wpAny_execs_nil (show PostC s H L m9 nw _ .next _ from ⟨rfl, _, _, _, _, rfl, by k_asm, news_perm (by k_asm) (fun p hp => List.Mem.tail _ hp), rfl, fun y g1 => by simp only [g1, if_false]⟩)
end

end
-- T34
section
theorem fillT34 : PySem.Challenge.rw_ij0118_01 = PySem.Challenge.rw_ij0118_01 ∧ hd.heap_1 = hd.heap_1 := by
  k_fill
  exact ⟨rfl, rfl⟩


inductive PostD (s : Shared) (H : Heap) (L : Addr) (m9 : Str → Option Value) (led0 : List (Addr × Obj)) (Ks : List Str) (f : Flow) (s' : Shared) : Prop
  | mk : (f = .next) → ∀ h' tk lr rv er oW, (s' = { s with heap := h', toks := tk }) → (Fr H L h' m9) → (News H L h' ((lr, listOf rv.toArray er) :: (L + 1 + 1 + 1, oW) :: led0)) → (StrsAre rv Ks) → (oW.data = .cell (some (.ref lr))) → ((∀ q ∈ led0, q.1 ≠ lr)) → (L + 1 + 1 + 1 ≠ lr) → PostD s H L m9 led0 Ks f s'
theorem off1_mem {D : Addr} {l : List (Addr × Obj)} (x : PyProof.Rows.LCg.Off1 D l) (p : Addr × Obj) (h : p ∈ l) : p.1 ≠ D := by
  induction l with
  | nil => cases h
  | cons q r ih =>
    rcases List.mem_cons.mp h with rfl | h
    · exact x.1
    · exact ih x.2 h
section
variable {w : World} {E : Value → Shared → Prop} {s : Shared} {H : Heap} {L fa ln lt lk : Addr} {cd : Value} {m9 : Str → Option Value} {loose : List Str} {mean : ExcName → Option Value} {mg mb : Str → Option Value} {oK c3 : Obj} {v3 : Option Value} {led0 : List (Addr × Obj)} {nv kv : List Value} {en ek : Nat} {xs : List Int}
theorem law_d
    (F : Fr H L s.heap m9) (N : News H L s.heap ((L + 1 + 1 + 1, c3) :: led0)) (X : (hd.heap_1 w.params).In H) (T : Top topProg loose mean mg mb H) (d3 : c3.data = .cell v3) (hne : ∀ q ∈ led0, q.1 ≠ L + 1 + 1 + 1)
    (hn : (ln, listOf nv.toArray en) ∈ led0) (ht : (lk, listOf kv.toArray ek) ∈ led0) (hc : (L + 1 + 1, oK) ∈ led0) (dK : oK.data = .cell (some (.ref lk))) (hkv : StrsAre kv KDs) (hxs : IntsAre nv xs) (hxr : ∀ x ∈ xs, 0 ≤ x ∧ x < 10 ^ 6) (hxl : xs.length ≤ 4) (p1 : m9 (Str.ofString "numbers") = some (.ref ln)) :
    wpAny (model PySem.Challenge.rw_ij0118_01.row.prog w) (lawA w.params L fa cd) (execs (((lawFn w.params).1.drop 4).take 1) (lawEnv w.params L fa cd)) (PostD s H L m9 led0 ((itemsOf xs).map KD)) E s := by
  iterate 2 (first | walk1 | (dsimp only; walk1) | skip)
  (repeat' (first | (k_unfold; (try dsimp only)) | ((with_reducible show wpAny _ _ (subscriptTail _ (PySem.Expr.BinOp _ _ _ _) (Value.ref _) (Value.int _ _)) _ _ _); (first | with_reducible ((k_here; (k_dflt refine' item_modK ?i1 ?i2 ?i3 ?i4 ?_ ?i5 ?i6); (case i1 => k_asm); (case i2 => k_mem); (case i3 => assumption); (case i4 => assumption); (case i5 => k_dflt with_unfolding_all rfl); (case i6 => k_dflt (intro _; with_unfolding_all rfl)))) | ((k_here; (k_dflt refine' item_modK ?i1 ?i2 ?i3 ?i4 ?_ ?i5 ?i6); (case i1 => k_asm); (case i2 => k_mem); (case i3 => assumption); (case i4 => assumption); (case i5 => k_dflt with_unfolding_all rfl); (case i6 => k_dflt (intro _; with_unfolding_all rfl)))))) | ((fail_if_success (with_reducible show wpAny _ _ (eval (PySem.Expr.ListComp _ _ _ _) _) _ _ _)); (fail_if_success (with_reducible show _ = _ ∧ _)); (fail_if_success (with_reducible show CompEnd _ _ _ _ _ _ _ _ _ _ _ _ _ _)); (fail_if_success (with_reducible show wpAny _ _ (exec (Stmt.Assign _ (PySem.Expr.ListComp _ _ _ _) _) _) _ _ _)); walk1) | ((fail_if_success (show wpAny _ _ (eval (PySem.Expr.ListComp _ _ _ _) _) _ _ _)); (fail_if_success (with_reducible show _ = _ ∧ _)); (fail_if_success (with_reducible show CompEnd _ _ _ _ _ _ _ _ _ _ _ _ _ _)); (fail_if_success (with_reducible show wpAny _ _ (exec (Stmt.Assign _ (PySem.Expr.ListComp _ _ _ _) _) _) _ _ _)); dsimp only; walk1) | fail "no step"))
  have hnl : nv.length = xs.length := hxs.length
  refine compG_K (vs := nv) (e := en) (ax := ln) (fun i ys nw => nw = (L + 1 + 1 + 1, c3) :: led0 ∧ StrsAre ys ((itemsOf (xs.take i)).map KD)) (by k_asm) N (.tail _ hn) rfl (by omega) (by with_unfolding_all rfl) (by decide) rfl (by decide) rfl ?_ ⟨rfl, .nil⟩ ?_ ?_
  · (repeat' (first | (k_unfold; (try dsimp only)) | ((with_reducible show wpAny _ _ (subscriptTail _ (PySem.Expr.BinOp _ _ _ _) (Value.ref _) (Value.int _ _)) _ _ _); (first | with_reducible ((k_here; (k_dflt refine' item_modK ?i1 ?i2 ?i3 ?i4 ?_ ?i5 ?i6); (case i1 => k_asm); (case i2 => k_mem); (case i3 => assumption); (case i4 => assumption); (case i5 => k_dflt with_unfolding_all rfl); (case i6 => k_dflt (intro _; with_unfolding_all rfl)))) | ((k_here; (k_dflt refine' item_modK ?i1 ?i2 ?i3 ?i4 ?_ ?i5 ?i6); (case i1 => k_asm); (case i2 => k_mem); (case i3 => assumption); (case i4 => assumption); (case i5 => k_dflt with_unfolding_all rfl); (case i6 => k_dflt (intro _; with_unfolding_all rfl)))))) | ((fail_if_success (with_reducible show wpAny _ _ (eval (PySem.Expr.ListComp _ _ _ _) _) _ _ _)); (fail_if_success (with_reducible show _ = _ ∧ _)); (fail_if_success (with_reducible show CompEnd _ _ _ _ _ _ _ _ _ _ _ _ _ _)); (fail_if_success (with_reducible show wpAny _ _ (exec (Stmt.Assign _ (PySem.Expr.ListComp _ _ _ _) _) _) _ _ _)); walk1) | ((fail_if_success (show wpAny _ _ (eval (PySem.Expr.ListComp _ _ _ _) _) _ _ _)); (fail_if_success (with_reducible show _ = _ ∧ _)); (fail_if_success (with_reducible show CompEnd _ _ _ _ _ _ _ _ _ _ _ _ _ _)); (fail_if_success (with_reducible show wpAny _ _ (exec (Stmt.Assign _ (PySem.Expr.ListComp _ _ _ _) _) _) _ _ _)); dsimp only; walk1) | fail "no step"))
    exact ⟨rfl, rfl⟩
  · rintro g i ys nw v I oI C oC D m₂ h tk E' hv ⟨rfl, hys⟩ hS hC hmx F' N' off hne
    obtain ⟨x, tx, rfl, hx⟩ := hxs.at i v hv
    have hb := hxr x (List.mem_of_getElem? hx)
    have hCn : h.Ns C m₂ := hC.ns (N' _ (.tail _ (.head _))).1
    have N2 : News H L h ((lk, listOf kv.toArray ek) :: (L + 1 + 1, oK) :: led0) := fun p hp => by
      rcases List.mem_cons.mp hp with rfl | hp
      · exact N' _ (.tail _ (.tail _ (.tail _ (.tail _ ht))))
      rcases List.mem_cons.mp hp with rfl | hp
      · exact N' _ (.tail _ (.tail _ (.tail _ (.tail _ hc))))
      · exact N' _ (.tail _ (.tail _ (.tail _ (.tail _ hp))))
    have hk : 0 ≤ x.fmod 11 ∧ x.fmod 11 < 1000 := by
      have h0 := Int.fmod_nonneg_of_pos x (show (0 : Int) < 11 by decide)
      have h1 := Int.fmod_lt_of_pos x (show (0 : Int) < 11 by decide)
      omega
    obtain ⟨u, hu⟩ : ∃ u, kv[(x.fmod 11).toNat]? = some (.str (KD (ofN x)) u) := by
      obtain ⟨p, u, hp⟩ := strsAt hkv (k := ofN x) (by rw [hkv.len_eq]; exact ofN_lt x)
      have h2 := hkv.item (ofN x) _ hp
      obtain ⟨y, t2, e1, e2⟩ := h2
      rw [KDs_at _ (ofN_lt x)] at e2
      cases e1
      cases e2
      exact ⟨_, hp⟩
    (repeat' (first | (k_unfold; (try dsimp only)) | ((with_reducible show wpAny _ _ (subscriptTail _ (PySem.Expr.BinOp _ _ _ _) (Value.ref _) (Value.int _ _)) _ _ _); (first | with_reducible ((k_here; (k_dflt refine' item_modK ?i1 ?i2 ?i3 ?i4 ?_ ?i5 ?i6); (case i1 => k_asm); (case i2 => k_mem); (case i3 => assumption); (case i4 => assumption); (case i5 => k_dflt with_unfolding_all rfl); (case i6 => k_dflt (intro _; with_unfolding_all rfl)))) | ((k_here; (k_dflt refine' item_modK ?i1 ?i2 ?i3 ?i4 ?_ ?i5 ?i6); (case i1 => k_asm); (case i2 => k_mem); (case i3 => assumption); (case i4 => assumption); (case i5 => k_dflt with_unfolding_all rfl); (case i6 => k_dflt (intro _; with_unfolding_all rfl)))))) | ((fail_if_success (with_reducible show wpAny _ _ (eval (PySem.Expr.ListComp _ _ _ _) _) _ _ _)); (fail_if_success (with_reducible show _ = _ ∧ _)); (fail_if_success (with_reducible show CompEnd _ _ _ _ _ _ _ _ _ _ _ _ _ _)); (fail_if_success (with_reducible show wpAny _ _ (exec (Stmt.Assign _ (PySem.Expr.ListComp _ _ _ _) _) _) _ _ _)); walk1) | ((fail_if_success (show wpAny _ _ (eval (PySem.Expr.ListComp _ _ _ _) _) _ _ _)); (fail_if_success (with_reducible show _ = _ ∧ _)); (fail_if_success (with_reducible show CompEnd _ _ _ _ _ _ _ _ _ _ _ _ _ _)); (fail_if_success (with_reducible show wpAny _ _ (exec (Stmt.Assign _ (PySem.Expr.ListComp _ _ _ _) _) _) _ _ _)); dsimp only; walk1) | fail "no step"))
    refine ⟨h, _, _, rfl, F', N', off, hS, rfl, ?_⟩
    rw [List.take_add_one, hx]
    unfold itemsOf at hys ⊢
    rw [List.map_append, List.map_append]
    exact hys.append' (.cons _ _ .nil)
  · rintro D h tk ys nw F' N' o1 ⟨rfl, hys⟩
    rw [hnl, List.take_length] at hys
    have hD := off1_mem o1
    refine storeX_C (c := L + 1 + 1 + 1) F' N' rfl (UpdF.tail (Ne.symm (hD _ (.head _))) (UpdF.head hne)) d3 ?_ rfl rfl
    intro h10 o10 F10 N10 d10
    try dsimp only at N10
    (repeat' (first | (k_unfold; (try dsimp only)) | ((with_reducible show wpAny _ _ (subscriptTail _ (PySem.Expr.BinOp _ _ _ _) (Value.ref _) (Value.int _ _)) _ _ _); (first | with_reducible ((k_here; (k_dflt refine' item_modK ?i1 ?i2 ?i3 ?i4 ?_ ?i5 ?i6); (case i1 => k_asm); (case i2 => k_mem); (case i3 => assumption); (case i4 => assumption); (case i5 => k_dflt with_unfolding_all rfl); (case i6 => k_dflt (intro _; with_unfolding_all rfl)))) | ((k_here; (k_dflt refine' item_modK ?i1 ?i2 ?i3 ?i4 ?_ ?i5 ?i6); (case i1 => k_asm); (case i2 => k_mem); (case i3 => assumption); (case i4 => assumption); (case i5 => k_dflt with_unfolding_all rfl); (case i6 => k_dflt (intro _; with_unfolding_all rfl)))))) | ((fail_if_success (with_reducible show wpAny _ _ (eval (PySem.Expr.ListComp _ _ _ _) _) _ _ _)); (fail_if_success (with_reducible show _ = _ ∧ _)); (fail_if_success (with_reducible show CompEnd _ _ _ _ _ _ _ _ _ _ _ _ _ _)); (fail_if_success (with_reducible show wpAny _ _ (exec (Stmt.Assign _ (PySem.Expr.ListComp _ _ _ _) _) _) _ _ _)); walk1) | ((fail_if_success (show wpAny _ _ (eval (PySem.Expr.ListComp _ _ _ _) _) _ _ _)); (fail_if_success (with_reducible show _ = _ ∧ _)); (fail_if_success (with_reducible show CompEnd _ _ _ _ _ _ _ _ _ _ _ _ _ _)); (fail_if_success (with_reducible show wpAny _ _ (exec (Stmt.Assign _ (PySem.Expr.ListComp _ _ _ _) _) _) _ _ _)); dsimp only; walk1) | fail "no step"))
    refine wpAny_execs_nil (show PostD s H L m9 led0 _ .next _ from ⟨rfl, _, _, D, ys, ys.length, o10, rfl, F10, N10, hys, d10, fun q hq => hD q (.tail _ hq), hD _ (.head _)⟩)
end

end
-- T35
section
theorem fillT35 : PySem.Challenge.rw_ij0118_01 = PySem.Challenge.rw_ij0118_01 ∧ hd.heap_1 = hd.heap_1 := by
  k_fill
  exact ⟨rfl, rfl⟩


theorem L_big {P : Params} {H h : Heap} {L : Addr} {m : Str → Option Value} (X : (hd.heap_1 P).In H) (F : Fr H L h m) : @LT.lt Nat _ 103 L := by
  obtain ⟨o, ho⟩ : ∃ o, (hd.heap_1 P).lookup 104 = some o := ⟨_, rfl⟩
  have h1 : @LT.lt Nat _ 104 H.objs.size := Heap.lt_size (X _ _ ho)
  have h2 : @LE.le Nat _ H.objs.size L := F.above
  omega
inductive PostE (s : Shared) (H : Heap) (L : Addr) (m9 : Str → Option Value) (rest : List (Addr × Obj)) (ps : List Str) (f : Flow) (s' : Shared) : Prop
  | mk : (f = .next) → ∀ m' lp pv ep t9', (s'.os = s.os) → (Fr H L s'.heap m') → (News H L s'.heap ((99, t9') :: (lp, listOf pv.toArray ep) :: rest)) → (StrsAre pv ps) → (T99 t9') → (AllBare s'.gens) → (m' (Str.ofString "parts") = some (.ref lp)) → ((∀ y, y ≠ Str.ofString "parts" → m' y = m9 y)) → ((∀ q ∈ rest, @LT.lt Nat _ q.1 lp)) → (@LT.lt Nat _ 99 lp) → PostE s H L m9 rest ps f s'
section
variable {w : World} {E : Value → Shared → Prop} {s : Shared} {H : Heap} {L fa : Addr} {cd : Value} {m9 : Str → Option Value} {loose : List Str} {mean : ExcName → Option Value} {mg mb : Str → Option Value} {t9 : Obj} {rest : List (Addr × Obj)} {is : List Nat} {tp : Tok}
theorem law_e
    (F : Fr H L s.heap m9) (N : News H L s.heap ((99, t9) :: rest)) (X : (hd.heap_1 w.params).In H) (T : Top topProg loose mean mg mb H) (K : Below callerA H [] H) (hne : ∀ q ∈ rest, q.1 ≠ 99) (ok9 : T99 t9) (G : AllBare s.gens)
    (his : ∀ i ∈ is, i < 11) (hl : is.length ≤ 4) (p1 : m9 (Str.ofString "pattern") = some (.str (catS (is.map TX)) tp)) :
    wpAny (model PySem.Challenge.rw_ij0118_01.row.prog w) (lawA w.params L fa cd) (execs (((lawFn w.params).1.drop 5).take 1) (lawEnv w.params L fa cd)) (PostE s H L m9 rest (is.map PT)) E s := by
  have hL := L_big X F
  iterate 2 (first | walk1 | (dsimp only; walk1) | skip)
  (repeat' (first | (k_unfold; (try dsimp only)) | ((fail_if_success (with_reducible show wpAny _ _ (call (Value.ref _) _) _ _ _)); (fail_if_success (with_reducible show wpAny _ _ (eval (PySem.Expr.ListComp _ _ _ _) _) _ _ _)); (fail_if_success (with_reducible show _ = _ ∧ _)); walk1) | ((fail_if_success (show wpAny _ _ (call (Value.ref _) _) _ _ _)); (fail_if_success (show wpAny _ _ (eval (PySem.Expr.ListComp _ _ _ _) _) _ _ _)); (fail_if_success (with_reducible show _ = _ ∧ _)); dsimp only; walk1) | fail "no step"))
  k_dflt (refine' translate_spec is his hl _ _ _ _ _ _ _ _ _ _ _ _ _ _ _ _ _ t9 rest _ _ _ (show callerA.depth + 1 ≤ 340 by decide) (show callerA.units + 3 ≤ 40 by decide) (by k_asm) (by k_asm) (by k_asm) (by k_asm) (by k_asm) rfl ?cd hne hL ok9 G ?_)
  case cd => exact codeHd_of_K X (by rfl)
  intro r add t9' s' hos F' N' lt gt ok' G' res
  obtain ⟨lr, vs, e, more, rfl, rfl, hvs⟩ := res
  have hq : ∀ q ∈ rest, @LT.lt Nat _ q.1 lr := fun q hq => lt _ (.head _) q hq
  (repeat' (first | (k_unfold; (try dsimp only)) | ((fail_if_success (with_reducible show wpAny _ _ (call (Value.ref _) _) _ _ _)); (fail_if_success (with_reducible show wpAny _ _ (eval (PySem.Expr.ListComp _ _ _ _) _) _ _ _)); (fail_if_success (with_reducible show _ = _ ∧ _)); walk1) | ((fail_if_success (show wpAny _ _ (call (Value.ref _) _) _ _ _)); (fail_if_success (show wpAny _ _ (eval (PySem.Expr.ListComp _ _ _ _) _) _ _ _)); (fail_if_success (with_reducible show _ = _ ∧ _)); dsimp only; walk1) | fail "no step"))
  refine wpAny_execs_nil (show PostE s H L m9 rest _ .next _ from ⟨rfl, _, lr, vs, e, t9', hos, by k_asm, news_perm (by k_asm) ?_, hvs, ok', G', rfl, fun y g1 => by simp only [g1, if_false], hq, gt _ (.head _)⟩)
  intro p hp
  simp only [List.mem_cons, List.mem_append, List.cons_append] at hp ⊢
  rcases hp with rfl | rfl | hp
  · exact .inl rfl
  · exact .inr (.inl rfl)
  · exact .inr (.inr (.inr hp))
end

end
-- T36
section
theorem fillT36 : PySem.Challenge.rw_ij0118_01 = PySem.Challenge.rw_ij0118_01 ∧ hd.heap_1 = hd.heap_1 := by
  k_fill
  exact ⟨rfl, rfl⟩



/-- nothing but heap and tokens is changed, the ledger stands -/
inductive PostF (s : Shared) (H : Heap) (L : Addr) (m9 : Str → Option Value) (led : List (Addr × Obj)) (f : Flow) (s' : Shared) : Prop
  | mk : (f = .next) → ∀ h' tk, (s' = { s with heap := h', toks := tk }) → (Fr H L h' m9) → (News H L h' led) → PostF s H L m9 led f s'
section
variable {w : World} {E : Value → Shared → Prop} {s : Shared} {H : Heap} {L fa lp lr : Addr} {cd : Value} {m9 : Str → Option Value} {loose : List Str} {mean : ExcName → Option Value} {mg mb : Str → Option Value} {oW : Obj} {led : List (Addr × Obj)} {pv rv : List Value} {ep er : Nat} {is : List Nat}
theorem law_f
    (F : Fr H L s.heap m9) (N : News H L s.heap led) (X : (hd.heap_1 w.params).In H) (T : Top topProg loose mean mg mb H) (K : Below callerA H [] H)
    (hp : (lp, listOf pv.toArray ep) ∈ led) (hr : (lr, listOf rv.toArray er) ∈ led) (hc : (L + 1 + 1 + 1, oW) ∈ led) (dW : oW.data = .cell (some (.ref lr))) (hpv : StrsAre pv (is.map PT)) (hrv : StrsAre rv (is.map KD)) (his : ∀ i ∈ is, i < 11) (hl : is.length ≤ 4) (p1 : m9 (Str.ofString "parts") = some (.ref lp)) :
    wpAny (model PySem.Challenge.rw_ij0118_01.row.prog w) (lawA w.params L fa cd) (execs (((lawFn w.params).1.drop 6).take 1) (lawEnv w.params L fa cd)) (PostF s H L m9 led) E s := by
  iterate 2 (first | walk1 | (dsimp only; walk1) | skip)
  (repeat' (first | (k_unfold; (try dsimp only)) | ((fail_if_success (with_reducible show wpAny _ _ (call (Value.ref _) _) _ _ _)); (fail_if_success (with_reducible show wpAny _ _ (eval (PySem.Expr.ListComp _ _ _ _) _) _ _ _)); (fail_if_success (with_reducible show _ = _ ∧ _)); (fail_if_success (with_reducible show wpAny _ _ (compareOp CmpOp.NotEq (Value.ref _) (Value.ref _)) _ _ _)); walk1) | ((fail_if_success (show wpAny _ _ (call (Value.ref _) _) _ _ _)); (fail_if_success (show wpAny _ _ (eval (PySem.Expr.ListComp _ _ _ _) _) _ _ _)); (fail_if_success (with_reducible show _ = _ ∧ _)); (fail_if_success (with_reducible show wpAny _ _ (compareOp CmpOp.NotEq (Value.ref _) (Value.ref _)) _ _ _)); dsimp only; walk1) | fail "no step"))
  have hnl : pv.length = is.length := by rw [hpv.len_eq, List.length_map]
  refine compG_K (vs := pv) (e := ep) (ax := lp) (fun i ys nw => nw = led ∧ StrsAre ys ((is.take i).map KD)) (by k_asm) N hp rfl (by omega) (by with_unfolding_all rfl) (by decide) rfl (by decide) rfl ?_ ⟨rfl, .nil⟩ ?_ ?_
  · (repeat' (first | (k_unfold; (try dsimp only)) | ((fail_if_success (with_reducible show wpAny _ _ (call (Value.ref _) _) _ _ _)); (fail_if_success (with_reducible show wpAny _ _ (eval (PySem.Expr.ListComp _ _ _ _) _) _ _ _)); (fail_if_success (with_reducible show _ = _ ∧ _)); (fail_if_success (with_reducible show wpAny _ _ (compareOp CmpOp.NotEq (Value.ref _) (Value.ref _)) _ _ _)); walk1) | ((fail_if_success (show wpAny _ _ (call (Value.ref _) _) _ _ _)); (fail_if_success (show wpAny _ _ (eval (PySem.Expr.ListComp _ _ _ _) _) _ _ _)); (fail_if_success (with_reducible show _ = _ ∧ _)); (fail_if_success (with_reducible show wpAny _ _ (compareOp CmpOp.NotEq (Value.ref _) (Value.ref _)) _ _ _)); dsimp only; walk1) | fail "no step"))
    exact ⟨rfl, rfl⟩
  · rintro g i ys nw v I oI C oC D m₂ h tk E' hv ⟨rfl, hys⟩ hS hC hmx F' N' off hne
    have hCn : h.Ns C m₂ := hC.ns (N' _ (.tail _ (.head _))).1
    obtain ⟨p, t, rfl, hpi⟩ := hpv.item i v hv
    obtain ⟨n, hn⟩ : ∃ n, is[i]? = some n := by
      have : i < is.length := by
        have := (List.getElem?_eq_some_iff.mp hv).1
        omega
      exact ⟨is[i], List.getElem?_eq_getElem this⟩
    rw [List.getElem?_map, hn] at hpi
    cases hpi
    have hn11 := his n (List.mem_of_getElem? hn)
    (repeat' (first | (k_unfold; (try dsimp only)) | ((fail_if_success (with_reducible show wpAny _ _ (call (Value.ref _) _) _ _ _)); (fail_if_success (with_reducible show wpAny _ _ (eval (PySem.Expr.ListComp _ _ _ _) _) _ _ _)); (fail_if_success (with_reducible show _ = _ ∧ _)); (fail_if_success (with_reducible show wpAny _ _ (compareOp CmpOp.NotEq (Value.ref _) (Value.ref _)) _ _ _)); walk1) | ((fail_if_success (show wpAny _ _ (call (Value.ref _) _) _ _ _)); (fail_if_success (show wpAny _ _ (eval (PySem.Expr.ListComp _ _ _ _) _) _ _ _)); (fail_if_success (with_reducible show _ = _ ∧ _)); (fail_if_success (with_reducible show wpAny _ _ (compareOp CmpOp.NotEq (Value.ref _) (Value.ref _)) _ _ _)); dsimp only; walk1) | fail "no step"))
    k_dflt (refine' taken_spec n hn11 _ _ _ _ _ _ _ _ _ _ _ _ _ _ _ _ _ _ _ (show callerA.depth + 1 ≤ 340 by decide) (show callerA.units + 3 ≤ 40 by decide) (by k_asm) (by k_asm) (by k_asm) (by k_asm) (by k_asm) rfl trivial ?_)
    intro r add h' tk' F2 N3 lt res
    obtain ⟨t', rfl⟩ := res
    (repeat' (first | (k_unfold; (try dsimp only)) | ((fail_if_success (with_reducible show wpAny _ _ (call (Value.ref _) _) _ _ _)); (fail_if_success (with_reducible show wpAny _ _ (eval (PySem.Expr.ListComp _ _ _ _) _) _ _ _)); (fail_if_success (with_reducible show _ = _ ∧ _)); (fail_if_success (with_reducible show wpAny _ _ (compareOp CmpOp.NotEq (Value.ref _) (Value.ref _)) _ _ _)); walk1) | ((fail_if_success (show wpAny _ _ (call (Value.ref _) _) _ _ _)); (fail_if_success (show wpAny _ _ (eval (PySem.Expr.ListComp _ _ _ _) _) _ _ _)); (fail_if_success (with_reducible show _ = _ ∧ _)); (fail_if_success (with_reducible show wpAny _ _ (compareOp CmpOp.NotEq (Value.ref _) (Value.ref _)) _ _ _)); dsimp only; walk1) | fail "no step"))
    refine ⟨h', _, nw, rfl, F2, (fun p hp => N3 p (List.mem_append_right _ hp)), off, hS, rfl, ?_⟩
    rw [List.take_add_one, hn]
    rw [List.map_append]
    exact hys.append' (.cons _ _ .nil)
  · rintro D h tk ys nw F' N' o1 ⟨rfl, hys⟩
    rw [hnl, List.take_length] at hys
    have N2 : News H L h ((L + 1 + 1 + 1, oW) :: nw) := fun p hp => by
      rcases List.mem_cons.mp hp with rfl | hp
      · exact N' _ (.tail _ hc)
      · exact N' _ (.tail _ hp)
    (repeat' (first | (k_unfold; (try dsimp only)) | ((fail_if_success (with_reducible show wpAny _ _ (call (Value.ref _) _) _ _ _)); (fail_if_success (with_reducible show wpAny _ _ (eval (PySem.Expr.ListComp _ _ _ _) _) _ _ _)); (fail_if_success (with_reducible show _ = _ ∧ _)); (fail_if_success (with_reducible show wpAny _ _ (compareOp CmpOp.NotEq (Value.ref _) (Value.ref _)) _ _ _)); walk1) | ((fail_if_success (show wpAny _ _ (call (Value.ref _) _) _ _ _)); (fail_if_success (show wpAny _ _ (eval (PySem.Expr.ListComp _ _ _ _) _) _ _ _)); (fail_if_success (with_reducible show _ = _ ∧ _)); (fail_if_success (with_reducible show wpAny _ _ (compareOp CmpOp.NotEq (Value.ref _) (Value.ref _)) _ _ _)); dsimp only; walk1) | fail "no step"))
    refine ne_strs_same (S := is.map KD) ⟨_, (N' _ (.head _)).1, rfl, _, rfl⟩ (led_list N' (.tail _ hr)) hys hrv (by units_room) ?_
    (repeat' (first | (k_unfold; (try dsimp only)) | ((fail_if_success (with_reducible show wpAny _ _ (call (Value.ref _) _) _ _ _)); (fail_if_success (with_reducible show wpAny _ _ (eval (PySem.Expr.ListComp _ _ _ _) _) _ _ _)); (fail_if_success (with_reducible show _ = _ ∧ _)); (fail_if_success (with_reducible show wpAny _ _ (compareOp CmpOp.NotEq (Value.ref _) (Value.ref _)) _ _ _)); walk1) | ((fail_if_success (show wpAny _ _ (call (Value.ref _) _) _ _ _)); (fail_if_success (show wpAny _ _ (eval (PySem.Expr.ListComp _ _ _ _) _) _ _ _)); (fail_if_success (with_reducible show _ = _ ∧ _)); (fail_if_success (with_reducible show wpAny _ _ (compareOp CmpOp.NotEq (Value.ref _) (Value.ref _)) _ _ _)); dsimp only; walk1) | fail "no step"))
    refine wpAny_execs_nil (show PostF s H L m9 nw .next _ from ⟨rfl, _, _, rfl, by k_asm, fun p hp => N' p (.tail _ hp)⟩)
end

end
-- T37
section
theorem fillT37 : PySem.Challenge.rw_ij0118_01 = PySem.Challenge.rw_ij0118_01 ∧ hd.heap_1 = hd.heap_1 := by
  k_fill
  exact ⟨rfl, rfl⟩




theorem str_assoc_ne (a b c : Str) : (Str.empty ++ a ++ b ++ c != a ++ b ++ c) = false := by rw [Str.empty_append]; simp
theorem add_sz {x y : Str} (hx : x.length ≤ 2000) (hy : y.length ≤ 2000) : x.length + y.length ≤ sizeLine := by rw [sizeLine_eq]; omega
inductive PostG (s : Shared) (H : Heap) (L : Addr) (m9 : Str → Option Value) (rest : List (Addr × Obj)) (f : Flow) (s' : Shared) : Prop
  | mk : (f = .next) → ∀ t9', (s'.os = s.os) → (Fr H L s'.heap m9) → (News H L s'.heap ((99, t9') :: rest)) → (T99 t9') → (AllBare s'.gens) → PostG s H L m9 rest f s'
section
variable {w : World} {E : Value → Shared → Prop} {s : Shared} {H : Heap} {L fa lp : Addr} {cd : Value} {m9 : Str → Option Value} {loose : List Str} {mean : ExcName → Option Value} {mg mb : Str → Option Value} {t9 : Obj} {rest : List (Addr × Obj)} {is : List Nat} {tp : Tok} {pv : List Value} {ep : Nat}
theorem law_g
    (F : Fr H L s.heap m9) (N : News H L s.heap ((99, t9) :: rest)) (X : (hd.heap_1 w.params).In H) (T : Top topProg loose mean mg mb H) (K : Below callerA H [] H) (hne : ∀ q ∈ rest, q.1 ≠ 99) (ok9 : T99 t9) (G : AllBare s.gens)
    (his : ∀ i ∈ is, i < 11) (hl : is.length ≤ 4) (hp : (lp, listOf pv.toArray ep) ∈ rest) (hpv : StrsAre pv (is.map PT)) (p1 : m9 (Str.ofString "pattern") = some (.str (catS (is.map TX)) tp)) (p2 : m9 (Str.ofString "parts") = some (.ref lp)) :
    wpAny (model PySem.Challenge.rw_ij0118_01.row.prog w) (lawA w.params L fa cd) (execs (((lawFn w.params).1.drop 7).take 1) (lawEnv w.params L fa cd)) (PostG s H L m9 rest) E s := by
  have hL := L_big X F
  have hz : (catS (is.map PT)).length ≤ 1000 := by have := catS_leP is his; omega
  have hpl : pv.length ≤ 1000 := by rw [hpv.len_eq, List.length_map]; omega
  iterate 2 (first | walk1 | (dsimp only; walk1) | skip)
  (repeat' (first | (k_unfold; (try dsimp only)) | ((with_reducible show wpAny _ _ (compareOp CmpOp.NotEq (Value.str _ _) (Value.str _ _)) _ _ _); (k_here; k_dflt (refine ne_lit (str_assoc_ne _ _ _) ?_))) | ((with_reducible show wpAny _ _ (binaryOp Operator.Add (Value.str _ _) (Value.str _ _)) _ _ _); (first | with_reducible ((k_here; k_dflt (refine PySem.SBL.add (fun t' k' => ?_) (by first | (rw [sizeLine_eq]; omega) | (rw [len_app, sizeLine_eq]; omega))))) | ((k_here; k_dflt (refine PySem.SBL.add (fun t' k' => ?_) (by first | (rw [sizeLine_eq]; omega) | (rw [len_app, sizeLine_eq]; omega))))))) | ((fail_if_success (with_reducible show wpAny _ _ (call (Value.ref _) _) _ _ _)); (fail_if_success (with_reducible show wpAny _ _ (eval (PySem.Expr.ListComp _ _ _ _) _) _ _ _)); (fail_if_success (with_reducible show _ = _ ∧ _)); (fail_if_success (with_reducible show wpAny _ _ (compareOp CmpOp.NotEq (Value.ref _) (Value.ref _)) _ _ _)); walk1) | ((fail_if_success (show wpAny _ _ (call (Value.ref _) _) _ _ _)); (fail_if_success (show wpAny _ _ (eval (PySem.Expr.ListComp _ _ _ _) _) _ _ _)); (fail_if_success (with_reducible show _ = _ ∧ _)); (fail_if_success (with_reducible show wpAny _ _ (compareOp CmpOp.NotEq (Value.ref _) (Value.ref _)) _ _ _)); dsimp only; walk1) | fail "no step"))
  k_dflt (refine' transl_spec is his hl _ _ _ _ _ _ _ _ _ _ _ _ _ _ _ t9 rest _ _ _ (show callerA.depth + 1 ≤ 330 by decide) (show callerA.units + 3 ≤ 30 by decide) (by k_asm) (by k_asm) (by k_asm) (by k_asm) (by k_asm) rfl ?cd hne hL ok9 G ?_)
  case cd => exact codeHd_of_K X (by rfl)
  intro r add t9' s' hos F' N' lt gt ok' G' res
  obtain ⟨t2, rfl⟩ := res
  have N2 : News H L s'.heap ((lp, listOf pv.toArray ep) :: (99, t9') :: rest) := fun p hp' => by
    rcases List.mem_cons.mp hp' with rfl | hp'
    · exact N' _ (.tail _ (List.mem_append_right _ hp))
    rcases List.mem_cons.mp hp' with rfl | hp'
    · exact N' _ (.head _)
    · exact N' _ (.tail _ (List.mem_append_right _ hp'))
  clear N'
  (repeat' (first | (k_unfold; (try dsimp only)) | ((with_reducible show wpAny _ _ (compareOp CmpOp.NotEq (Value.str _ _) (Value.str _ _)) _ _ _); (k_here; k_dflt (refine ne_lit (str_assoc_ne _ _ _) ?_))) | ((with_reducible show wpAny _ _ (binaryOp Operator.Add (Value.str _ _) (Value.str _ _)) _ _ _); (first | with_reducible ((k_here; k_dflt (refine PySem.SBL.add (fun t' k' => ?_) (by first | (rw [sizeLine_eq]; omega) | (rw [len_app, sizeLine_eq]; omega))))) | ((k_here; k_dflt (refine PySem.SBL.add (fun t' k' => ?_) (by first | (rw [sizeLine_eq]; omega) | (rw [len_app, sizeLine_eq]; omega))))))) | ((fail_if_success (with_reducible show wpAny _ _ (call (Value.ref _) _) _ _ _)); (fail_if_success (with_reducible show wpAny _ _ (eval (PySem.Expr.ListComp _ _ _ _) _) _ _ _)); (fail_if_success (with_reducible show _ = _ ∧ _)); (fail_if_success (with_reducible show wpAny _ _ (compareOp CmpOp.NotEq (Value.ref _) (Value.ref _)) _ _ _)); walk1) | ((fail_if_success (show wpAny _ _ (call (Value.ref _) _) _ _ _)); (fail_if_success (show wpAny _ _ (eval (PySem.Expr.ListComp _ _ _ _) _) _ _ _)); (fail_if_success (with_reducible show _ = _ ∧ _)); (fail_if_success (with_reducible show wpAny _ _ (compareOp CmpOp.NotEq (Value.ref _) (Value.ref _)) _ _ _)); dsimp only; walk1) | fail "no step"))
  refine join_led N2 (.head _) hpv hz hpl (fun t' k => ?_)
  have h1 : (Str.ofString "(?s:").length = 4 := by decide +kernel
  have h2 : (Str.ofString ")\\Z").length = 3 := by decide +kernel
  (repeat' (first | (k_unfold; (try dsimp only)) | ((with_reducible show wpAny _ _ (compareOp CmpOp.NotEq (Value.str _ _) (Value.str _ _)) _ _ _); (k_here; k_dflt (refine ne_lit (str_assoc_ne _ _ _) ?_))) | ((with_reducible show wpAny _ _ (binaryOp Operator.Add (Value.str _ _) (Value.str _ _)) _ _ _); (first | with_reducible ((k_here; k_dflt (refine PySem.SBL.add (fun t' k' => ?_) (by first | (rw [sizeLine_eq]; omega) | (rw [len_app, sizeLine_eq]; omega))))) | ((k_here; k_dflt (refine PySem.SBL.add (fun t' k' => ?_) (by first | (rw [sizeLine_eq]; omega) | (rw [len_app, sizeLine_eq]; omega))))))) | ((fail_if_success (with_reducible show wpAny _ _ (call (Value.ref _) _) _ _ _)); (fail_if_success (with_reducible show wpAny _ _ (eval (PySem.Expr.ListComp _ _ _ _) _) _ _ _)); (fail_if_success (with_reducible show _ = _ ∧ _)); (fail_if_success (with_reducible show wpAny _ _ (compareOp CmpOp.NotEq (Value.ref _) (Value.ref _)) _ _ _)); walk1) | ((fail_if_success (show wpAny _ _ (call (Value.ref _) _) _ _ _)); (fail_if_success (show wpAny _ _ (eval (PySem.Expr.ListComp _ _ _ _) _) _ _ _)); (fail_if_success (with_reducible show _ = _ ∧ _)); (fail_if_success (with_reducible show wpAny _ _ (compareOp CmpOp.NotEq (Value.ref _) (Value.ref _)) _ _ _)); dsimp only; walk1) | fail "no step"))

  refine wpAny_execs_nil (show PostG s H L m9 rest .next _ from ⟨rfl, t9', hos, by k_asm, fun p hp => N2 p (.tail _ hp), ok', G'⟩)
end

end
-- T38
section
theorem fillT38 : PySem.Challenge.rw_ij0118_01 = PySem.Challenge.rw_ij0118_01 ∧ hd.heap_1 = hd.heap_1 := by
  k_fill
  exact ⟨rfl, rfl⟩




/-- the number that is asked for a drawn number -/
noncomputable def askN (n : Int) : Int := (n.fdiv 11).fmod 121 - 60
noncomputable def asksOf (xs : List Int) : List Int := [-1] ++ xs.map askN
theorem asksOf_range (xs : List Int) : ∀ n ∈ asksOf xs, -61 ≤ n ∧ n ≤ 61 := by
  intro n hn
  unfold asksOf at hn
  rcases List.mem_append.mp hn with h | h
  · rw [List.mem_singleton.mp h]; decide
  · obtain ⟨k, _, rfl⟩ := List.mem_map.mp h
    have h0 := Int.fmod_nonneg_of_pos (k.fdiv 11) (show (0 : Int) < 121 by decide)
    have h1 := Int.fmod_lt_of_pos (k.fdiv 11) (show (0 : Int) < 121 by decide)
    unfold askN; omega
inductive PostH (s : Shared) (H : Heap) (L : Addr) (m9 : Str → Option Value) (led : List (Addr × Obj)) (ns : List Int) (f : Flow) (s' : Shared) : Prop
  | mk : (f = .next) → ∀ h' tk m' la av ea, (s' = { s with heap := h', toks := tk }) → (Fr H L h' m') → (News H L h' ((la, listOf av.toArray ea) :: led)) → (IntsAre av ns) → (m' (Str.ofString "asked") = some (.ref la)) → ((∀ y, y ≠ Str.ofString "asked" → m' y = m9 y)) → ((∀ q ∈ led, @LT.lt Nat _ q.1 la)) → PostH s H L m9 led ns f s'
section
variable {w : World} {E : Value → Shared → Prop} {s : Shared} {H : Heap} {L fa ln : Addr} {cd : Value} {m9 : Str → Option Value} {loose : List Str} {mean : ExcName → Option Value} {mg mb : Str → Option Value} {led : List (Addr × Obj)} {nv : List Value} {en : Nat} {xs : List Int}
theorem law_h
    (F : Fr H L s.heap m9) (N : News H L s.heap led) (X : (hd.heap_1 w.params).In H) (T : Top topProg loose mean mg mb H) (K : Below callerA H [] H) (hn : (ln, listOf nv.toArray en) ∈ led)
    (hxs : IntsAre nv xs) (hxr : ∀ x ∈ xs, 0 ≤ x ∧ x < 10 ^ 6) (hxl : xs.length ≤ 4) (p1 : m9 (Str.ofString "numbers") = some (.ref ln)) :
    wpAny (model PySem.Challenge.rw_ij0118_01.row.prog w) (lawA w.params L fa cd) (execs (((lawFn w.params).1.drop 8).take 1) (lawEnv w.params L fa cd)) (PostH s H L m9 led (asksOf xs)) E s := by
  iterate 2 (first | walk1 | (dsimp only; walk1) | skip)
  (repeat' (first | (k_unfold; (try dsimp only)) | ((fail_if_success (with_reducible show wpAny _ _ (call (Value.ref _) _) _ _ _)); (fail_if_success (with_reducible show wpAny _ _ (eval (PySem.Expr.ListComp _ _ _ _) _) _ _ _)); (fail_if_success (with_reducible show _ = _ ∧ _)); (fail_if_success (with_reducible show wpAny _ _ (compareOp CmpOp.NotEq (Value.ref _) (Value.ref _)) _ _ _)); walk1) | ((fail_if_success (show wpAny _ _ (call (Value.ref _) _) _ _ _)); (fail_if_success (show wpAny _ _ (eval (PySem.Expr.ListComp _ _ _ _) _) _ _ _)); (fail_if_success (with_reducible show _ = _ ∧ _)); (fail_if_success (with_reducible show wpAny _ _ (compareOp CmpOp.NotEq (Value.ref _) (Value.ref _)) _ _ _)); dsimp only; walk1) | fail "no step"))
  have hnl : nv.length = xs.length := hxs.length
  rename News H L _ _ => N1

  rename_i l1 _ _ hl1
  refine compG_K (vs := nv) (e := en) (ax := ln) (fun i ys nw => nw = (l1, listOf #[Value.int (-1) (s.toks + 1)] 0) :: led ∧ IntsAre ys ((xs.take i).map askN)) (by k_asm) N1 (.tail _ hn) rfl (by omega) (by with_unfolding_all rfl) (by decide) rfl (by decide) rfl ?_ ⟨rfl, .nil⟩ ?_ ?_
  · (repeat' (first | (k_unfold; (try dsimp only)) | ((fail_if_success (with_reducible show wpAny _ _ (call (Value.ref _) _) _ _ _)); (fail_if_success (with_reducible show wpAny _ _ (eval (PySem.Expr.ListComp _ _ _ _) _) _ _ _)); (fail_if_success (with_reducible show _ = _ ∧ _)); (fail_if_success (with_reducible show wpAny _ _ (compareOp CmpOp.NotEq (Value.ref _) (Value.ref _)) _ _ _)); walk1) | ((fail_if_success (show wpAny _ _ (call (Value.ref _) _) _ _ _)); (fail_if_success (show wpAny _ _ (eval (PySem.Expr.ListComp _ _ _ _) _) _ _ _)); (fail_if_success (with_reducible show _ = _ ∧ _)); (fail_if_success (with_reducible show wpAny _ _ (compareOp CmpOp.NotEq (Value.ref _) (Value.ref _)) _ _ _)); dsimp only; walk1) | fail "no step"))
    exact ⟨rfl, rfl⟩
  · rintro g i ys nw v I oI C oC D m₂ h tk E' hv ⟨rfl, hys⟩ hS hC hmx F' N' off hne
    obtain ⟨x, tx, rfl, hx⟩ := hxs.at i v hv
    have hb := hxr x (List.mem_of_getElem? hx)
    have hCn : h.Ns C m₂ := hC.ns (N' _ (.tail _ (.head _))).1
    (repeat' (first | (k_unfold; (try dsimp only)) | ((fail_if_success (with_reducible show wpAny _ _ (call (Value.ref _) _) _ _ _)); (fail_if_success (with_reducible show wpAny _ _ (eval (PySem.Expr.ListComp _ _ _ _) _) _ _ _)); (fail_if_success (with_reducible show _ = _ ∧ _)); (fail_if_success (with_reducible show wpAny _ _ (compareOp CmpOp.NotEq (Value.ref _) (Value.ref _)) _ _ _)); walk1) | ((fail_if_success (show wpAny _ _ (call (Value.ref _) _) _ _ _)); (fail_if_success (show wpAny _ _ (eval (PySem.Expr.ListComp _ _ _ _) _) _ _ _)); (fail_if_success (with_reducible show _ = _ ∧ _)); (fail_if_success (with_reducible show wpAny _ _ (compareOp CmpOp.NotEq (Value.ref _) (Value.ref _)) _ _ _)); dsimp only; walk1) | fail "no step"))
    refine ⟨h, _, _, rfl, F', N', off, hS, rfl, ?_⟩
    rw [List.take_add_one, hx]
    rw [List.map_append]
    exact IntsAre.append hys (.cons _ _ .nil)
  · rintro D h tk ys nw F' N' o1 ⟨rfl, hys⟩
    rw [hnl, List.take_length] at hys
    have hyl := hys.length
    (repeat' (first | (k_unfold; (try dsimp only)) | ((fail_if_success (with_reducible show wpAny _ _ (call (Value.ref _) _) _ _ _)); (fail_if_success (with_reducible show wpAny _ _ (eval (PySem.Expr.ListComp _ _ _ _) _) _ _ _)); (fail_if_success (with_reducible show _ = _ ∧ _)); (fail_if_success (with_reducible show wpAny _ _ (compareOp CmpOp.NotEq (Value.ref _) (Value.ref _)) _ _ _)); walk1) | ((fail_if_success (show wpAny _ _ (call (Value.ref _) _) _ _ _)); (fail_if_success (show wpAny _ _ (eval (PySem.Expr.ListComp _ _ _ _) _) _ _ _)); (fail_if_success (with_reducible show _ = _ ∧ _)); (fail_if_success (with_reducible show wpAny _ _ (compareOp CmpOp.NotEq (Value.ref _) (Value.ref _)) _ _ _)); dsimp only; walk1) | fail "no step"))
    rename_i Dn nv9 _ hI9 l4 _ F9 N9
    refine wpAny_execs_nil (show PostH s H L m9 led _ .next _ from ⟨rfl, _, _, _, Dn, nv9, 0, rfl, F9, news_perm N9 ?_, hI9, rfl, fun y g1 => by simp only [g1, if_false], news_allLt l4.2.2⟩)
    rintro q (_ | ⟨_, h⟩)
    · exact .head _
    · exact .tail _ (.tail _ (.tail _ h))
end

end
-- B27
section
open PySem PySem.W PyProof.Rows PySem.Calls PySem.Spec PyProof.Rows.LCg
set_option autoImplicit false
/-- what _law_told answers for the number n and the row ks -/
noncomputable def Told (ks : List Str) (led : List (Addr × Obj)) (n : Int) (y : Value) : Prop :=
  ((∃ k ∈ ks, k.length = 0) → ∃ t, y = .str (Str.ofString "refused") t) ∧ ((∀ k ∈ ks, 0 < k.length) → ∃ l t1 t2, y = .ref l ∧ (l, tupO [.int (qF ks.reverse n) t1, .int (dval 2 (pF ks.reverse n)) t2]) ∈ led)
theorem Told.mono {ks : List Str} {led led' : List (Addr × Obj)} {n : Int} {y : Value} (h : Told ks led n y) (hl : ∀ p ∈ led, p ∈ led') : Told ks led' n y :=
  ⟨h.1, fun h0 => by obtain ⟨l, t1, t2, e, hm⟩ := h.2 h0; exact ⟨l, t1, t2, e, hl _ hm⟩⟩
noncomputable def ToldAre (ks : List Str) (led : List (Addr × Obj)) (ns : List Int) (ys : List Value) : Prop :=
  ys.length = ns.length ∧ ∀ (j : Nat) (y : Value), ys[j]? = some y → ∃ n, ns[j]? = some n ∧ Told ks led n y
theorem ToldAre.nil {ks : List Str} {led : List (Addr × Obj)} : ToldAre ks led [] [] := ⟨rfl, fun j y h => by simp at h⟩
theorem ToldAre.snoc {ks : List Str} {led led' : List (Addr × Obj)} {ns : List Int} {ys : List Value} {n : Int} {y : Value} (h : ToldAre ks led ns ys) (hl : ∀ p ∈ led, p ∈ led') (hy : Told ks led' n y) : ToldAre ks led' (ns ++ [n]) (ys ++ [y]) := by
  refine ⟨by rw [List.length_append, List.length_append, h.1]; rfl, fun j v hv => ?_⟩
  rcases Nat.lt_or_ge j ys.length with hj | hj
  · rw [List.getElem?_append_left hj] at hv
    obtain ⟨k, hk, ht⟩ := h.2 j v hv
    exact ⟨k, by rw [List.getElem?_append_left (by rw [← h.1]; exact hj)]; exact hk, ht.mono hl⟩
  · rw [List.getElem?_append_right hj] at hv
    have h0 : j - ys.length = 0 := by
      have := (List.getElem?_eq_some_iff.mp hv).1
      simp at this; omega
    rw [h0] at hv
    cases hv
    exact ⟨n, by rw [List.getElem?_append_right (by rw [← h.1]; exact hj), ← h.1, h0]; rfl, hy⟩
inductive InvI (ks : List Str) (rest : List (Addr × Obj)) (ns : List Int) (ys : List Value) (nw : List (Addr × Obj)) : Prop
  | mk : ∀ t1 t2 K add, (nw = (54, t1) :: (47, t2) :: (add ++ rest)) → (Ok54 t1 K) → (Ok47 t2 K) → ((∀ p ∈ K, p ∈ add ++ rest)) → ((∀ p ∈ add, (54 : Addr) < p.1)) → ((∀ p ∈ add, ∀ q ∈ rest, q.1 < p.1)) → (ToldAre ks (add ++ rest) ns ys) → InvI ks rest ns ys nw
theorem told_turn {h₀ h' : Heap} {L I C D la : Addr} {m : Str → Option Value} {s : Shared} {oI oC t1 t2 u1 u2 : Obj} {x : Addr × Obj} {ys av : List Value} {ea tk i : Nat} {addN add0 rest K1 : List (Addr × Obj)} {ks : List Str} {ns : List Int} {n : Int} {r : Value}
    (F : Fr h₀ L h' m) (N : News h₀ L h' ((54, t1) :: (47, t2) :: (addN ++ (x :: (I, oI) :: (C, oC) :: (D, lst ys) :: (add0 ++ rest)))))
    (lt : ∀ p ∈ addN, ∀ q ∈ (x :: (I, oI) :: (C, oC) :: (D, lst ys) :: (add0 ++ rest)), q.1 < p.1) (g1' : ∀ p ∈ addN, (54 : Addr) < p.1) (ok1 : Ok54 t1 (addN ++ K1)) (ok2 : Ok47 t2 (addN ++ K1)) (hK1 : ∀ p ∈ K1, p ∈ add0 ++ rest)
    (g1 : ∀ p ∈ add0, (54 : Addr) < p.1) (g2 : ∀ p ∈ add0, ∀ q ∈ rest, q.1 < p.1) (off : Off3 I C D ((54, u1) :: (47, u2) :: (add0 ++ rest))) (ha : (la, listOf av.toArray ea) ∈ rest)
    (hys : ToldAre ks (add0 ++ rest) (ns.take i) ys) (hn : ns[i]? = some n)
    (res : ((∃ k ∈ ks, k.length = 0) → ∃ t, r = .str (Str.ofString "refused") t) ∧ ((∀ k ∈ ks, 0 < k.length) → ∃ l t1 t2 more, r = .ref l ∧ addN = (l, tupO [.int (qF ks.reverse n) t1, .int (dval 2 (pF ks.reverse n)) t2]) :: more)) :
    CompEnd h₀ L m s I oI C oC D (lst ys) (SrcAt h₀ la av.toArray) (fun y nw' => InvI ks rest (ns.take (i + 1)) (ys ++ [y]) nw') r { s with heap := h', toks := tk } := by
  refine ⟨h', tk, (54, t1) :: (47, t2) :: ((addN ++ add0) ++ rest), rfl, F, ?_, ?_, ?_, ?_⟩
  · intro p hp
    refine N p ?_
    simp only [List.mem_cons, List.mem_append] at hp ⊢
    grind
  · refine ⟨?_, ?_, Off3.of fun p hp => ?_⟩
    · exact off.mem (54, u1) (.head _)
    · exact off.mem (47, u2) (.tail _ (.head _))
    · rw [List.append_assoc] at hp
      rcases List.mem_append.mp hp with hp | hp
      · have a1 := lt p hp (I, oI) (.tail _ (.head _))
        have a2 := lt p hp (C, oC) (.tail _ (.tail _ (.head _)))
        have a3 := lt p hp (D, lst ys) (.tail _ (.tail _ (.tail _ (.head _))))
        exact ⟨Nat.ne_of_gt a1, Nat.ne_of_gt a2, Nat.ne_of_gt a3⟩
      · exact off.mem p (.tail _ (.tail _ hp))
  · exact .inr ⟨_, .tail _ (.tail _ (List.mem_append_right _ ha)), rfl, ea, rfl⟩
  · refine ⟨t1, t2, addN ++ K1, addN ++ add0, rfl, ok1, ok2, ?_, ?_, ?_, ?_⟩
    · intro p hp
      rw [List.append_assoc]
      rcases List.mem_append.mp hp with hp | hp
      · exact List.mem_append_left _ hp
      · exact List.mem_append_right _ (hK1 p hp)
    · intro p hp
      rcases List.mem_append.mp hp with hp | hp
      · exact g1' p hp
      · exact g1 p hp
    · intro p hp q hq
      rcases List.mem_append.mp hp with hp | hp
      · exact lt p hp q (.tail _ (.tail _ (.tail _ (.tail _ (List.mem_append_right _ hq)))))
      · exact g2 p hp q hq
    · rw [List.take_add_one, hn]
      rw [List.append_assoc]
      refine hys.snoc (fun p hp => List.mem_append_right _ hp) ⟨res.1, fun h0 => ?_⟩
      obtain ⟨l, t1, t2, more, e, rfl⟩ := res.2 h0
      exact ⟨l, t1, t2, e, .head _⟩
theorem invI_zero {ks : List Str} {rest K : List (Addr × Obj)} {t1 t2 : Obj} (ok1 : Ok54 t1 K) (ok2 : Ok47 t2 K) (hK : ∀ p ∈ K, p ∈ rest) : InvI ks rest [] [] ((54, t1) :: (47, t2) :: rest) :=
  ⟨t1, t2, K, [], rfl, ok1, ok2, hK, fun _ h => (List.not_mem_nil h).elim, fun _ h => (List.not_mem_nil h).elim, ToldAre.nil⟩

end
-- P4
section
open PySem PySem.W PyProof.Rows
set_option autoImplicit false
theorem flatMap_at {α β : Type} {c : Nat} {f : α → List β} (hf : ∀ a, (f a).length = c) : ∀ (ns : List α) (i j : Nat) (a : α), ns[i]? = some a → j < c → (ns.flatMap f)[c * i + j]? = (f a)[j]?
  | [], i, j, a, h, _ => by simp at h
  | b :: ns, 0, j, a, h, hj => by
    cases h
    rw [List.flatMap_cons, Nat.mul_zero, Nat.zero_add, List.getElem?_append_left (by rw [hf]; exact hj)]
  | b :: ns, i + 1, j, a, h, hj => by
    rw [List.flatMap_cons, List.getElem?_append_right (by rw [hf, Nat.mul_succ]; omega), hf]
    have e : c * (i + 1) + j - c = c * i + j := by rw [Nat.mul_succ, Nat.add_right_comm, Nat.add_sub_cancel]
    rw [e]
    exact flatMap_at hf ns i j a h hj
theorem emod_split (n : Int) {c N : Int} (hc : 0 < c) (hN : 0 < N) : n % (N * c) = c * (n / c % N) + n % c := by
  have h1 := Int.mul_ediv_add_emod n c
  have h2 := Int.mul_ediv_add_emod (n / c) N
  have a1 := Int.emod_nonneg n (Int.ne_of_gt hc)
  have a2 := Int.emod_lt_of_pos n hc
  have b1 := Int.emod_nonneg (n / c) (Int.ne_of_gt hN)
  have b2 := Int.emod_lt_of_pos (n / c) hN
  have h3 : n = N * c * (n / c / N) + (c * (n / c % N) + n % c) := by
    have : c * (n / c) = c * (N * (n / c / N)) + c * (n / c % N) := by rw [← Int.mul_add, h2]
    have e : N * c * (n / c / N) = c * (N * (n / c / N)) := by rw [Int.mul_comm N c, Int.mul_assoc]
    omega
  have h4 : 0 ≤ c * (n / c % N) + n % c := by have := Int.mul_nonneg (Int.le_of_lt hc) b1; omega
  have h5 : c * (n / c % N) + n % c < N * c := by
    have : c * (n / c % N) ≤ c * (N - 1) := Int.mul_le_mul_of_nonneg_left (by omega) (Int.le_of_lt hc)
    have e : c * (N - 1) = N * c - c := by rw [Int.mul_sub, Int.mul_one, Int.mul_comm]
    omega
  conv => lhs; rw [h3]
  rw [Int.mul_add_emod_self_left]
  exact Int.emod_eq_of_lt h4 h5
theorem nmF_told : ∀ (pr : List Str) (n : Int), (∀ k ∈ pr, 0 < k.length) → 0 < (nmF pr.reverse).length ∧ qF pr n = n.fdiv ((nmF pr.reverse).length : Int) ∧ (nmF pr.reverse)[(n.fmod ((nmF pr.reverse).length : Int)).toNat]? = some (dval 2 (pF pr n)) := by
  intro pr
  induction pr with
  | nil =>
    intro n _
    refine ⟨Nat.one_pos, ?_, ?_⟩
    · show n = n.fdiv 1
      rw [Int.fdiv_eq_ediv_of_nonneg _ (by decide), Int.ediv_one]
    · show ([0] : List Int)[(n.fmod 1).toNat]? = some 0
      rw [Int.fmod_eq_emod_of_nonneg _ (by decide), Int.emod_one]; rfl
  | cons k pr ih =>
    intro n h
    have hk : 0 < k.length := h k (.head _)
    obtain ⟨i1, i2, i3⟩ := ih (n.fdiv k.length) (fun a ha => h a (.tail _ ha))
    rw [List.reverse_cons, nmF_snoc, nmStep_len]
    have hc : (0 : Int) < k.length := by omega
    have hN : (0 : Int) < (nmF pr.reverse).length := by omega
    refine ⟨Nat.mul_pos i1 hk, ?_, ?_⟩
    · show qF pr (n.fdiv k.length) = _
      rw [i2, Int.fdiv_eq_ediv_of_nonneg _ (Int.le_of_lt hc), Int.fdiv_eq_ediv_of_nonneg _ (Int.le_of_lt hN), Int.fdiv_eq_ediv_of_nonneg _ (by omega), Int.ediv_ediv_of_nonneg (Int.le_of_lt hc)]
      push_cast
      rw [Int.mul_comm]
    · rw [Int.fdiv_eq_ediv_of_nonneg _ (Int.le_of_lt hc), Int.fmod_eq_emod_of_nonneg _ (Int.le_of_lt hN)] at i3
      have hb := Int.emod_nonneg (n / k.length) (Int.ne_of_gt hN)
      have ha := Int.emod_nonneg n (Int.ne_of_gt hc)
      have ha2 := Int.emod_lt_of_pos n hc
      have e : (n.fmod (((nmF pr.reverse).length * k.length : Nat) : Int)).toNat = k.length * (n / k.length % (nmF pr.reverse).length).toNat + (n % k.length).toNat := by
        rw [Int.fmod_eq_emod_of_nonneg _ (by omega)]
        push_cast
        rw [emod_split n hc hN]
        have := Int.mul_nonneg (Int.le_of_lt hc) hb
        rw [Int.toNat_add this ha, Int.toNat_mul (Int.le_of_lt hc) hb, Int.toNat_natCast]
      rw [e]
      unfold nmStep
      rw [flatMap_at (c := k.length) (fun a => by rw [List.length_map, List.length_range]) _ _ _ _ i3 (by omega)]
      rw [List.getElem?_map, List.getElem?_range (by omega)]
      show some _ = some _
      congr 1
      show 4 * dval 2 (pF pr (n / k.length)) + ix k (((n % k.length).toNat : Nat) : Int) = ix k (n.fmod k.length) + 2 ^ 2 * dval 2 (pF pr (n.fdiv k.length))
      rw [Int.fdiv_eq_ediv_of_nonneg _ (Int.le_of_lt hc), Int.fmod_eq_emod_of_nonneg _ (Int.le_of_lt hc), Int.toNat_of_nonneg ha]
      omega
theorem nmF_empty : ∀ (pr : List Str), (∃ k ∈ pr, k.length = 0) → nmF pr.reverse = [] := by
  intro pr
  induction pr with
  | nil => intro h; obtain ⟨k, hk, _⟩ := h; exact (List.not_mem_nil hk).elim
  | cons a pr ih =>
    rintro ⟨k, hk, h0⟩
    rw [List.reverse_cons, nmF_snoc]
    rcases List.mem_cons.mp hk with rfl | hk
    · unfold nmStep
      refine List.flatMap_eq_nil_iff.mpr fun a _ => ?_
      rw [h0]; rfl
    · rw [ih ⟨k, hk, h0⟩]; rfl
/-- the two ways: some kind takes nothing, or every one takes something -/
theorem kinds_two (ks : List Str) : (∃ k ∈ ks, k.length = 0) ∨ (∀ k ∈ ks, 0 < k.length) := by
  by_cases h : ∃ k ∈ ks, k.length = 0
  · exact .inl h
  · exact .inr fun k hk => Nat.pos_of_ne_zero fun h0 => h ⟨k, hk, h0⟩
theorem names_empty {ks : List Str} (h : ∃ k ∈ ks, k.length = 0) : nmF ks = [] := by
  have := nmF_empty ks.reverse (by obtain ⟨k, hk, h0⟩ := h; exact ⟨k, List.mem_reverse.mpr hk, h0⟩)
  rwa [List.reverse_reverse] at this
theorem names_told {ks : List Str} (h : ∀ k ∈ ks, 0 < k.length) (n : Int) : 0 < (nmF ks).length ∧ qF ks.reverse n = n.fdiv ((nmF ks).length : Int) ∧ (nmF ks)[(n.fmod ((nmF ks).length : Int)).toNat]? = some (dval 2 (pF ks.reverse n)) := by
  have := nmF_told ks.reverse n (fun k hk => h k (List.mem_reverse.mp hk))
  rwa [List.reverse_reverse] at this

end
-- B30
section
open PySem PySem.W PyProof.Rows PySem.Calls PySem.Spec PySem.SeqAt
set_option autoImplicit false
noncomputable def PairsIn (led : List (Addr × Obj)) (vs : List Value) (ps : List (Int × Int)) : Prop :=
  vs.length = ps.length ∧ ∀ (j : Nat) (v : Value), vs[j]? = some v → ∃ p l t u, ps[j]? = some p ∧ v = .ref l ∧ (l, tupO [.int p.1 t, .int p.2 u]) ∈ led
theorem PairsIn.nil {led : List (Addr × Obj)} : PairsIn led [] [] := ⟨rfl, fun j y h => by simp at h⟩
theorem PairsIn.are {h₀ h : Heap} {L : Addr} {led : List (Addr × Obj)} {vs : List Value} {ps : List (Int × Int)} (N : News h₀ L h led) (x : PairsIn led vs ps) : PairsAre h vs ps :=
  ⟨x.1, fun j v hv => by
    obtain ⟨p, l, t, u, e1, e2, hm⟩ := x.2 j v hv
    exact ⟨p, l, t, u, e1, e2, _, (N _ hm).1, rfl, _, rfl⟩⟩
theorem PairsIn.mono {led led' : List (Addr × Obj)} {vs : List Value} {ps : List (Int × Int)} (x : PairsIn led vs ps) (hl : ∀ p ∈ led, p ∈ led') : PairsIn led' vs ps :=
  ⟨x.1, fun j v hv => by
    obtain ⟨p, l, t, u, e1, e2, hm⟩ := x.2 j v hv
    exact ⟨p, l, t, u, e1, e2, hl _ hm⟩⟩
theorem PairsIn.snoc {led : List (Addr × Obj)} {vs : List Value} {ps : List (Int × Int)} {p : Int × Int} {l : Addr} {t u : Tok} (x : PairsIn led vs ps) : PairsIn ((l, tupO [.int p.1 t, .int p.2 u]) :: led) (vs ++ [.ref l]) (ps ++ [p]) := by
  refine ⟨by rw [List.length_append, List.length_append, x.1]; rfl, fun j v hv => ?_⟩
  rcases Nat.lt_or_ge j vs.length with hj | hj
  · rw [List.getElem?_append_left hj] at hv
    obtain ⟨p, l, t, u, e1, e2, hm⟩ := x.2 j v hv
    exact ⟨p, l, t, u, by rw [List.getElem?_append_left (by rw [← x.1]; exact hj)]; exact e1, e2, .tail _ hm⟩
  · rw [List.getElem?_append_right hj] at hv
    have h0 : j - vs.length = 0 := by
      have := (List.getElem?_eq_some_iff.mp hv).1
      simp at this; omega
    rw [h0] at hv
    cases hv
    exact ⟨p, l, t, u, by rw [List.getElem?_append_right (by rw [← x.1]; exact hj), ← x.1, h0]; rfl, rfl, .head _⟩
/-- the pair that is told for n -/
noncomputable def pairF (ks : List Str) (n : Int) : Int × Int := (qF ks.reverse n, dval 2 (pF ks.reverse n))
theorem ToldAre.pairs {ks : List Str} {led : List (Addr × Obj)} {ns : List Int} {ys : List Value} (h0 : ∀ k ∈ ks, 0 < k.length) (x : ToldAre ks led ns ys) : PairsIn led ys (ns.map (pairF ks)) :=
  ⟨by rw [x.1, List.length_map], fun j v hv => by
    obtain ⟨n, hn, ht⟩ := x.2 j v hv
    obtain ⟨l, t, u, e, hm⟩ := ht.2 h0
    exact ⟨pairF ks n, l, t, u, by rw [List.getElem?_map, hn]; rfl, e, hm⟩⟩
theorem strs_rep (x : Str) (n : Nat) (ys : List Value) (hl : ys.length = n) (h : ∀ (j : Nat) (y : Value), ys[j]? = some y → ∃ t, y = Value.str x t) : StrsAre ys (List.replicate n x) := by
  induction ys generalizing n with
  | nil => subst hl; exact .nil
  | cons y ys ih =>
    subst hl
    obtain ⟨t, rfl⟩ := h 0 y rfl
    exact .cons _ _ (ih ys.length rfl fun j v hv => h (j + 1) v hv)
theorem ToldAre.strs {ks : List Str} {led : List (Addr × Obj)} {ns : List Int} {ys : List Value} (h0 : ∃ k ∈ ks, k.length = 0) (x : ToldAre ks led ns ys) : StrsAre ys (List.replicate ns.length (Str.ofString "refused")) :=
  strs_rep _ _ _ x.1 fun j y hy => by
    obtain ⟨n, _, ht⟩ := x.2 j y hy
    exact ht.1 h0

end
-- T39
section
set_option autoImplicit false
theorem fillT39 : PySem.Challenge.rw_ij0118_01 = PySem.Challenge.rw_ij0118_01 ∧ hd.heap_1 = hd.heap_1 := by
  k_fill
  exact ⟨rfl, rfl⟩





inductive PostI (s : Shared) (H : Heap) (L : Addr) (m9 : Str → Option Value) (rest : List (Addr × Obj)) (ks : List Str) (ns : List Int) (f : Flow) (s' : Shared) : Prop
  | mk : (f = .next) → ∀ h' tk m' lT ys nw, (s' = { s with heap := h', toks := tk }) → (Fr H L h' m') → (News H L h' ((lT, PyProof.Rows.LCg.lst ys) :: nw)) → (InvI ks rest ns ys nw) → (m' (Str.ofString "told") = some (.ref lT)) → ((∀ y, y ≠ Str.ofString "told" → m' y = m9 y)) → ((∀ q ∈ nw, q.1 ≠ lT)) → PostI s H L m9 rest ks ns f s'
section
variable {w : World} {E : Value → Shared → Prop} {s : Shared} {H : Heap} {L fa la lr : Addr} {cd : Value} {m9 : Str → Option Value} {loose : List Str} {mean : ExcName → Option Value} {mg mb : Str → Option Value} {t1 t2 oW : Obj} {rest K : List (Addr × Obj)} {av rv : List Value} {ea er : Nat} {ns : List Int} {ks : List Str}
theorem law_i
    (F : Fr H L s.heap m9) (N : News H L s.heap ((54, t1) :: (47, t2) :: rest)) (X : (hd.heap_1 w.params).In H) (T : Top topProg loose mean mg mb H) (K0 : Below callerA H [] H) (hne : ∀ p ∈ rest, p.1 ≠ 54 ∧ p.1 ≠ 47)
    (ok1 : Ok54 t1 K) (ok2 : Ok47 t2 K) (hK : ∀ p ∈ K, p ∈ rest) (ha : (la, listOf av.toArray ea) ∈ rest) (hr : (lr, listOf rv.toArray er) ∈ rest) (hc : (L + 1 + 1 + 1, oW) ∈ rest) (dW : oW.data = .cell (some (.ref lr)))
    (hav : IntsAre av ns) (hnr : ∀ n ∈ ns, -61 ≤ n ∧ n ≤ 61) (hnl : ns.length ≤ 5) (hrv : StrsAre rv ks) (hok : ∀ k ∈ ks, KOk k) (hlen : ks.length ≤ 4) (hlen2 : 0 < ks.length) (p1 : m9 (Str.ofString "asked") = some (.ref la)) :
    wpAny (model PySem.Challenge.rw_ij0118_01.row.prog w) (lawA w.params L fa cd) (execs (((lawFn w.params).1.drop 9).take 1) (lawEnv w.params L fa cd)) (PostI s H L m9 rest ks ns) E s := by
  have hL := L_big X F
  iterate 2 (first | walk1 | (dsimp only; walk1) | skip)
  have hal := hav.length
  (repeat' (first | (k_unfold; (try dsimp only)) | ((fail_if_success (with_reducible show wpAny _ _ (call (Value.ref _) _) _ _ _)); (fail_if_success (with_reducible show wpAny _ _ (eval (PySem.Expr.ListComp _ _ _ _) _) _ _ _)); (fail_if_success (with_reducible show _ = _ ∧ _)); (fail_if_success (with_reducible show PyProof.Rows.LCg.CompSrc _ _ _ _ _ _ _ _ _ _ _ _ _ _)); (fail_if_success (with_reducible show wpAny _ _ (compareOp CmpOp.NotEq (Value.ref _) (Value.ref _)) _ _ _)); walk1) | ((fail_if_success (show wpAny _ _ (call (Value.ref _) _) _ _ _)); (fail_if_success (show wpAny _ _ (eval (PySem.Expr.ListComp _ _ _ _) _) _ _ _)); (fail_if_success (with_reducible show _ = _ ∧ _)); (fail_if_success (with_reducible show PyProof.Rows.LCg.CompSrc _ _ _ _ _ _ _ _ _ _ _ _ _ _)); (fail_if_success (with_reducible show wpAny _ _ (compareOp CmpOp.NotEq (Value.ref _) (Value.ref _)) _ _ _)); dsimp only; walk1) | fail "no step"))
  refine PyProof.Rows.LCg.CompSrc.ledger (its := av.toArray) (k := ea) rfl (by k_asm) N (.tail _ (.tail _ ha)) (by rw [List.size_toArray, sizeLine_eq]; omega) (fun g => ?_)
  rw [List.size_toArray]
  refine rest_of (Inv := fun i ys nw => InvI ks rest (ns.take i) ys nw) ?_ ?_ av.length 0 [] _ (by omega) (invI_zero ok1 ok2 hK) (.inr ⟨_, .tail _ (.tail _ ha), rfl, ea, rfl⟩)
  · rintro i ys nw v I oI C oC D m₂ h tk E' hv ⟨u1, u2, K1, add0, rfl, k1, k2, hK1, g1, g2, hys⟩ hS hC hmx F' N' off hne3
    obtain ⟨n, tn, rfl, hn⟩ := hav.at i v hv
    have hb := hnr n (List.mem_of_getElem? hn)
    have hCn : h.Ns C m₂ := hC.ns (N' _ (.tail _ (.head _))).1
    have o54 := off.mem (54, u1) (.head _)
    have o47 := off.mem (47, u2) (.tail _ (.head _))
    have hne2 : ∀ p ∈ ((L + 1 + 1 + 1, oW) :: (I, oI) :: (C, oC) :: (D, PyProof.Rows.LCg.lst ys) :: (add0 ++ rest)), p.1 ≠ 54 ∧ p.1 ≠ 47 := by
      intro p hp
      rcases List.mem_cons.mp hp with rfl | hp
      · exact hne _ hc
      rcases List.mem_cons.mp hp with rfl | hp
      · exact ⟨Ne.symm o54.1, Ne.symm o47.1⟩
      rcases List.mem_cons.mp hp with rfl | hp
      · exact ⟨Ne.symm o54.2.1, Ne.symm o47.2.1⟩
      rcases List.mem_cons.mp hp with rfl | hp
      · exact ⟨Ne.symm o54.2.2, Ne.symm o47.2.2⟩
      rcases List.mem_append.mp hp with hp | hp
      · have a1 : @LT.lt Nat _ 54 p.1 := g1 p hp
        exact ⟨Nat.ne_of_gt a1, Nat.ne_of_gt (Nat.lt_trans (show 47 < 54 by decide) a1)⟩
      · exact hne _ hp
    have N2 : News H L h ((54, u1) :: (47, u2) :: ((L + 1 + 1 + 1, oW) :: (I, oI) :: (C, oC) :: (D, PyProof.Rows.LCg.lst ys) :: (add0 ++ rest))) := by
      intro p hp
      refine N' p ?_
      simp only [List.mem_cons, List.mem_append] at hp ⊢
      rcases hp with h1 | h1 | h1 | h1 | h1 | h1 | h1
      · exact .inr (.inr (.inr (.inl h1)))
      · exact .inr (.inr (.inr (.inr (.inl h1))))
      · rw [h1]; exact .inr (.inr (.inr (.inr (.inr (.inr hc)))))
      · exact .inl h1
      · exact .inr (.inl h1)
      · exact .inr (.inr (.inl h1))
      · exact .inr (.inr (.inr (.inr (.inr h1))))
    clear N'
    (repeat' (first | (k_unfold; (try dsimp only)) | ((fail_if_success (with_reducible show wpAny _ _ (call (Value.ref _) _) _ _ _)); (fail_if_success (with_reducible show wpAny _ _ (eval (PySem.Expr.ListComp _ _ _ _) _) _ _ _)); (fail_if_success (with_reducible show _ = _ ∧ _)); (fail_if_success (with_reducible show PyProof.Rows.LCg.CompSrc _ _ _ _ _ _ _ _ _ _ _ _ _ _)); (fail_if_success (with_reducible show wpAny _ _ (compareOp CmpOp.NotEq (Value.ref _) (Value.ref _)) _ _ _)); walk1) | ((fail_if_success (show wpAny _ _ (call (Value.ref _) _) _ _ _)); (fail_if_success (show wpAny _ _ (eval (PySem.Expr.ListComp _ _ _ _) _) _ _ _)); (fail_if_success (with_reducible show _ = _ ∧ _)); (fail_if_success (with_reducible show PyProof.Rows.LCg.CompSrc _ _ _ _ _ _ _ _ _ _ _ _ _ _)); (fail_if_success (with_reducible show wpAny _ _ (compareOp CmpOp.NotEq (Value.ref _) (Value.ref _)) _ _ _)); dsimp only; walk1) | fail "no step"))
    k_dflt (refine' law_told_spec n tn lr rv ks er hb.1 hb.2 hrv hok hlen hlen2 _ _ _ _ _ _ _ _ _ _ _ _ _ _ _ K1 _ _ _ (show callerA.depth + 1 ≤ 336 by decide) (show callerA.units + 3 ≤ 36 by decide) (by k_asm) (by k_asm) (by k_asm) N2 (by k_asm) rfl (codeHd_of_K X (by rfl)) (codeHd_of_K X (by rfl)) hne2 (Nat.lt_trans (show 99 < 103 by decide) hL) k1 k2 (fun p hp => .tail _ (.tail _ (.tail _ (.tail _ (hK1 p hp))))) (.tail _ (.tail _ (.tail _ (.tail _ (List.mem_append_right _ hr))))) ?_)
    intro r add t1' t2' h' tk' F3 N3 lt l54 ok1' ok2' res
    (repeat' (first | (k_unfold; (try dsimp only)) | ((fail_if_success (with_reducible show wpAny _ _ (call (Value.ref _) _) _ _ _)); (fail_if_success (with_reducible show wpAny _ _ (eval (PySem.Expr.ListComp _ _ _ _) _) _ _ _)); (fail_if_success (with_reducible show _ = _ ∧ _)); (fail_if_success (with_reducible show PyProof.Rows.LCg.CompSrc _ _ _ _ _ _ _ _ _ _ _ _ _ _)); (fail_if_success (with_reducible show wpAny _ _ (compareOp CmpOp.NotEq (Value.ref _) (Value.ref _)) _ _ _)); walk1) | ((fail_if_success (show wpAny _ _ (call (Value.ref _) _) _ _ _)); (fail_if_success (show wpAny _ _ (eval (PySem.Expr.ListComp _ _ _ _) _) _ _ _)); (fail_if_success (with_reducible show _ = _ ∧ _)); (fail_if_success (with_reducible show PyProof.Rows.LCg.CompSrc _ _ _ _ _ _ _ _ _ _ _ _ _ _)); (fail_if_success (with_reducible show wpAny _ _ (compareOp CmpOp.NotEq (Value.ref _) (Value.ref _)) _ _ _)); dsimp only; walk1) | fail "no step"))
    exact told_turn F3 N3 lt l54 ok1' ok2' hK1 g1 g2 off ha hys hn res
  · rintro ys nw hI _ D h tk F' N' o1
    rw [hal, List.take_length] at hI
    (repeat' (first | (k_unfold; (try dsimp only)) | ((fail_if_success (with_reducible show wpAny _ _ (call (Value.ref _) _) _ _ _)); (fail_if_success (with_reducible show wpAny _ _ (eval (PySem.Expr.ListComp _ _ _ _) _) _ _ _)); (fail_if_success (with_reducible show _ = _ ∧ _)); (fail_if_success (with_reducible show PyProof.Rows.LCg.CompSrc _ _ _ _ _ _ _ _ _ _ _ _ _ _)); (fail_if_success (with_reducible show wpAny _ _ (compareOp CmpOp.NotEq (Value.ref _) (Value.ref _)) _ _ _)); walk1) | ((fail_if_success (show wpAny _ _ (call (Value.ref _) _) _ _ _)); (fail_if_success (show wpAny _ _ (eval (PySem.Expr.ListComp _ _ _ _) _) _ _ _)); (fail_if_success (with_reducible show _ = _ ∧ _)); (fail_if_success (with_reducible show PyProof.Rows.LCg.CompSrc _ _ _ _ _ _ _ _ _ _ _ _ _ _)); (fail_if_success (with_reducible show wpAny _ _ (compareOp CmpOp.NotEq (Value.ref _) (Value.ref _)) _ _ _)); dsimp only; walk1) | fail "no step"))
    exact wpAny_execs_nil (show PostI s H L m9 rest ks ns .next _ from ⟨rfl, _, _, _, D, ys, nw, rfl, F', N', hI, rfl, fun y g1 => by simp only [g1, if_false], off1_mem o1⟩)

end

end
-- T40
section
set_option autoImplicit false
theorem fillT40 : PySem.Challenge.rw_ij0118_01 = PySem.Challenge.rw_ij0118_01 ∧ hd.heap_1 = hd.heap_1 := by
  k_fill
  exact ⟨rfl, rfl⟩





inductive PostJ (s : Shared) (H : Heap) (L : Addr) (m9 : Str → Option Value) (led0 : List (Addr × Obj)) (ks : List Str) (f : Flow) (s' : Shared) : Prop
  | mk : (f = .next) → ∀ h' tk l vs e' oN, (s' = { s with heap := h', toks := tk }) → (Fr H L h' m9) → (News H L h' ((L + 1 + 1 + 1 + 1, oN) :: (l, listOf vs.toArray e') :: led0)) → (IntsAre vs (nmF ks)) → (oN.data = .cell (some (.ref l))) → ((∀ q ∈ led0, @LT.lt Nat _ q.1 l)) → PostJ s H L m9 led0 ks f s'
section
variable {w : World} {E : Value → Shared → Prop} {s : Shared} {H : Heap} {L fa lr : Addr} {cd : Value} {m9 : Str → Option Value} {loose : List Str} {mean : ExcName → Option Value} {mg mb : Str → Option Value} {c4 oW : Obj} {v4 : Option Value} {led0 : List (Addr × Obj)} {rv : List Value} {er : Nat} {ks : List Str}
theorem law_j
    (F : Fr H L s.heap m9) (N : News H L s.heap ((L + 1 + 1 + 1 + 1, c4) :: led0)) (X : (hd.heap_1 w.params).In H) (T : Top topProg loose mean mg mb H) (K0 : Below callerA H [] H) (d4 : c4.data = .cell v4) (hne : ∀ q ∈ led0, q.1 ≠ L + 1 + 1 + 1 + 1)
    (hr : (lr, listOf rv.toArray er) ∈ led0) (hc : (L + 1 + 1 + 1, oW) ∈ led0) (dW : oW.data = .cell (some (.ref lr))) (hrv : StrsAre rv ks) (hok : ∀ k ∈ ks, KOk k) (hlen : ks.length ≤ 4) :
    wpAny (model PySem.Challenge.rw_ij0118_01.row.prog w) (lawA w.params L fa cd) (execs (((lawFn w.params).1.drop 10).take 1) (lawEnv w.params L fa cd)) (PostJ s H L m9 led0 ks) E s := by
  have N2 : News H L s.heap ((L + 1 + 1 + 1, oW) :: (L + 1 + 1 + 1 + 1, c4) :: led0) := fun p hp => by
    rcases List.mem_cons.mp hp with rfl | hp
    · exact N _ (.tail _ hc)
    · exact N _ hp
  clear N
  iterate 2 (first | walk1 | (dsimp only; walk1) | skip)
  (repeat' (first | (k_unfold; (try dsimp only)) | ((fail_if_success (with_reducible show wpAny _ _ (call (Value.ref _) _) _ _ _)); (fail_if_success (with_reducible show wpAny _ _ (eval (PySem.Expr.ListComp _ _ _ _) _) _ _ _)); (fail_if_success (with_reducible show _ = _ ∧ _)); (fail_if_success (with_reducible show wpAny _ _ (compareOp CmpOp.NotEq (Value.ref _) (Value.ref _)) _ _ _)); walk1) | ((fail_if_success (show wpAny _ _ (call (Value.ref _) _) _ _ _)); (fail_if_success (show wpAny _ _ (eval (PySem.Expr.ListComp _ _ _ _) _) _ _ _)); (fail_if_success (with_reducible show _ = _ ∧ _)); (fail_if_success (with_reducible show wpAny _ _ (compareOp CmpOp.NotEq (Value.ref _) (Value.ref _)) _ _ _)); dsimp only; walk1) | fail "no step"))
  k_dflt (refine' law_in_order_spec lr rv ks er hrv hok hlen _ _ _ _ _ _ _ _ _ _ _ _ _ _ _ _ _ _ (show callerA.depth + 1 ≤ 360 by decide) (show callerA.units + 3 ≤ 60 by decide) (by k_asm) (by k_asm) (by k_asm) N2 (by k_asm) rfl (.tail _ (.tail _ hr)) ?_)
  intro r add h' tk' F2 N3 lt res
  obtain ⟨l, vs, e', more, rfl, rfl, hI⟩ := res
  have N4 : News H L h' ((L + 1 + 1 + 1 + 1, c4) :: (l, listOf vs.toArray e') :: led0) := by
    intro p hp
    refine N3 p ?_
    simp only [List.mem_cons, List.mem_append] at hp ⊢
    rcases hp with h1 | h1 | h1
    · exact .inr (.inr (.inl h1))
    · exact .inl (.inl h1)
    · exact .inr (.inr (.inr h1))
  have hl4 := lt _ (.head _) (L + 1 + 1 + 1 + 1, c4) (.tail _ (.head _))
  have hll : ∀ q ∈ led0, @LT.lt Nat _ q.1 l := fun q hq => lt _ (.head _) q (.tail _ (.tail _ hq))
  clear N3 N2
  (repeat' (first | (k_unfold; (try dsimp only)) | ((fail_if_success (with_reducible show wpAny _ _ (call (Value.ref _) _) _ _ _)); (fail_if_success (with_reducible show wpAny _ _ (eval (PySem.Expr.ListComp _ _ _ _) _) _ _ _)); (fail_if_success (with_reducible show _ = _ ∧ _)); (fail_if_success (with_reducible show wpAny _ _ (compareOp CmpOp.NotEq (Value.ref _) (Value.ref _)) _ _ _)); walk1) | ((fail_if_success (show wpAny _ _ (call (Value.ref _) _) _ _ _)); (fail_if_success (show wpAny _ _ (eval (PySem.Expr.ListComp _ _ _ _) _) _ _ _)); (fail_if_success (with_reducible show _ = _ ∧ _)); (fail_if_success (with_reducible show wpAny _ _ (compareOp CmpOp.NotEq (Value.ref _) (Value.ref _)) _ _ _)); dsimp only; walk1) | fail "no step"))
  refine storeX_C (c := L + 1 + 1 + 1 + 1) F2 N4 rfl (UpdF.head ?_) d4 ?_ rfl rfl
  · intro q hq
    rcases List.mem_cons.mp hq with rfl | hq
    · exact Nat.ne_of_gt hl4
    · exact hne q hq
  intro h10 o10 F10 N10 d10
  try dsimp only at N10
  (repeat' (first | (k_unfold; (try dsimp only)) | ((fail_if_success (with_reducible show wpAny _ _ (call (Value.ref _) _) _ _ _)); (fail_if_success (with_reducible show wpAny _ _ (eval (PySem.Expr.ListComp _ _ _ _) _) _ _ _)); (fail_if_success (with_reducible show _ = _ ∧ _)); (fail_if_success (with_reducible show wpAny _ _ (compareOp CmpOp.NotEq (Value.ref _) (Value.ref _)) _ _ _)); walk1) | ((fail_if_success (show wpAny _ _ (call (Value.ref _) _) _ _ _)); (fail_if_success (show wpAny _ _ (eval (PySem.Expr.ListComp _ _ _ _) _) _ _ _)); (fail_if_success (with_reducible show _ = _ ∧ _)); (fail_if_success (with_reducible show wpAny _ _ (compareOp CmpOp.NotEq (Value.ref _) (Value.ref _)) _ _ _)); dsimp only; walk1) | fail "no step"))
  refine wpAny_execs_nil (show PostJ s H L m9 led0 ks .next _ from ⟨rfl, _, _, l, vs, e', o10, rfl, F10, N10, hI, d10, hll⟩)
end

end
-- T41
section
set_option autoImplicit false
theorem fillT41 : PySem.Challenge.rw_ij0118_01 = PySem.Challenge.rw_ij0118_01 ∧ hd.heap_1 = hd.heap_1 := by
  k_fill
  exact ⟨rfl, rfl⟩





inductive PostK (s : Shared) (H : Heap) (L : Addr) (led : List (Addr × Obj)) (f : Flow) (s' : Shared) : Prop
  | mk : (f = .ret (.bool true)) → ∀ h' tk m', (s' = { s with heap := h', toks := tk }) → (Fr H L h' m') → (News H L h' led) → PostK s H L led f s'
section
variable {w : World} {E : Value → Shared → Prop} {s : Shared} {H : Heap} {L fa la lT lN : Addr} {cd : Value} {m9 : Str → Option Value} {loose : List Str} {mean : ExcName → Option Value} {mg mb : Str → Option Value} {oN : Obj} {led led0 : List (Addr × Obj)} {av ys vs : List Value} {ea eN : Nat} {ns : List Int} {ks : List Str}
theorem law_k
    (F : Fr H L s.heap m9) (N : News H L s.heap led) (X : (hd.heap_1 w.params).In H) (T : Top topProg loose mean mg mb H) (K0 : Below callerA H [] H)
    (ha : (la, listOf av.toArray ea) ∈ led) (hT : (lT, PyProof.Rows.LCg.lst ys) ∈ led) (hN : (lN, listOf vs.toArray eN) ∈ led) (hc : (L + 1 + 1 + 1 + 1, oN) ∈ led) (dN : oN.data = .cell (some (.ref lN))) (h0 : ∀ p ∈ led0, p ∈ led)
    (hav : IntsAre av ns) (hnr : ∀ n ∈ ns, -61 ≤ n ∧ n ≤ 61) (hnl : ns.length ≤ 5) (hys : ToldAre ks led0 ns ys) (hvs : IntsAre vs (nmF ks)) (hvl : (nmF ks).length ≤ 256) (hvr : ∀ n ∈ nmF ks, 0 ≤ n ∧ n < 256)
    (p1 : m9 (Str.ofString "asked") = some (.ref la)) (p2 : m9 (Str.ofString "told") = some (.ref lT)) :
    wpAny (model PySem.Challenge.rw_ij0118_01.row.prog w) (lawA w.params L fa cd) (execs ((lawFn w.params).1.drop 11) (lawEnv w.params L fa cd)) (PostK s H L led) E s := by
  have hL := L_big X F
  have hal := hav.length
  have hvn := hvs.length
  have hyl := hys.1
  have N2 : News H L s.heap ((L + 1 + 1 + 1 + 1, oN) :: (lN, listOf vs.toArray eN) :: (lT, PyProof.Rows.LCg.lst ys) :: (la, listOf av.toArray ea) :: led) := fun p hp => by
    rcases List.mem_cons.mp hp with rfl | hp
    · exact N _ hc
    rcases List.mem_cons.mp hp with rfl | hp
    · exact N _ hN
    rcases List.mem_cons.mp hp with rfl | hp
    · exact N _ hT
    rcases List.mem_cons.mp hp with rfl | hp
    · exact N _ ha
    · exact N _ hp
  clear N
  iterate 2 (first | walk1 | (dsimp only; walk1) | skip)
  (repeat' (first | (k_unfold; (try dsimp only)) | ((fail_if_success (with_reducible show wpAny _ _ (call (Value.ref _) _) _ _ _)); (fail_if_success (with_reducible show wpAny _ _ (eval (PySem.Expr.ListComp _ _ _ _) _) _ _ _)); (fail_if_success (with_reducible show _ = _ ∧ _)); (fail_if_success (with_reducible show wpAny _ _ (compareOp CmpOp.Eq (Value.ref _) (Value.ref _)) _ _ _)); walk1) | ((fail_if_success (show wpAny _ _ (call (Value.ref _) _) _ _ _)); (fail_if_success (show wpAny _ _ (eval (PySem.Expr.ListComp _ _ _ _) _) _ _ _)); (fail_if_success (with_reducible show _ = _ ∧ _)); (fail_if_success (with_reducible show wpAny _ _ (compareOp CmpOp.Eq (Value.ref _) (Value.ref _)) _ _ _)); dsimp only; walk1) | fail "no step"))
  rename News H L _ _ => N3
  rcases kinds_two ks with hk | hk
  · have h0n := names_empty hk
    rw [h0n] at hvs
    cases hvs
    refine eq_both_empty ⟨_, (N3 _ (.tail _ (.tail _ (.head _)))).1, rfl, _, rfl⟩ ⟨_, (N3 _ (.head _)).1, rfl, _, rfl⟩ (by units_room) ?_
    have hst := hys.strs hk
    (repeat' (first | (k_unfold; (try dsimp only)) | ((fail_if_success (with_reducible show wpAny _ _ (call (Value.ref _) _) _ _ _)); (fail_if_success (with_reducible show wpAny _ _ (eval (PySem.Expr.ListComp _ _ _ _) _) _ _ _)); (fail_if_success (with_reducible show _ = _ ∧ _)); (fail_if_success (with_reducible show wpAny _ _ (compareOp CmpOp.Eq (Value.ref _) (Value.ref _)) _ _ _)); walk1) | ((fail_if_success (show wpAny _ _ (call (Value.ref _) _) _ _ _)); (fail_if_success (show wpAny _ _ (eval (PySem.Expr.ListComp _ _ _ _) _) _ _ _)); (fail_if_success (with_reducible show _ = _ ∧ _)); (fail_if_success (with_reducible show wpAny _ _ (compareOp CmpOp.Eq (Value.ref _) (Value.ref _)) _ _ _)); dsimp only; walk1) | fail "no step"))
    rename_i F4 N4 _ hI4 _
    refine eq_strs_same (S := List.replicate ns.length (Str.ofString "refused")) ⟨_, (N4 _ (.tail _ (.tail _ (.tail _ (.tail _ (.head _)))))).1, rfl, _, rfl⟩ hI4 hst (strs_rep _ _ _ ?_ ?_) (by units_room) ?_
    · simp
    · intro j y hy
      rw [show (#[Value.str (Str.ofString "refused") s.toks] : Array Value).toList = [Value.str (Str.ofString "refused") s.toks] from rfl, List.flatten_replicate_singleton] at hy
      obtain ⟨_, h2⟩ := List.getElem?_eq_some_iff.mp hy
      rw [List.getElem_replicate] at h2
      exact ⟨_, h2.symm⟩
    · exact ⟨rfl, _, _, m9, rfl, F4, fun p hp => N4 p (.tail _ (.tail _ (.tail _ (.tail _ (.tail _ (.tail _ hp))))))⟩
  · have hN0 := (names_told hk 0).1
    rw [← hvn] at hN0
    refine eq_none_empty (led_list N3 (.tail _ (.tail _ (.head _)))) ⟨_, (N3 _ (.head _)).1, rfl, _, rfl⟩ hN0 (by units_room) ?_
    (repeat' (first | (k_unfold; (try dsimp only)) | ((fail_if_success (with_reducible show wpAny _ _ (call (Value.ref _) _) _ _ _)); (fail_if_success (with_reducible show wpAny _ _ (eval (PySem.Expr.ListComp _ _ _ _) _) _ _ _)); (fail_if_success (with_reducible show _ = _ ∧ _)); (fail_if_success (with_reducible show wpAny _ _ (compareOp CmpOp.Eq (Value.ref _) (Value.ref _)) _ _ _)); walk1) | ((fail_if_success (show wpAny _ _ (call (Value.ref _) _) _ _ _)); (fail_if_success (show wpAny _ _ (eval (PySem.Expr.ListComp _ _ _ _) _) _ _ _)); (fail_if_success (with_reducible show _ = _ ∧ _)); (fail_if_success (with_reducible show wpAny _ _ (compareOp CmpOp.Eq (Value.ref _) (Value.ref _)) _ _ _)); dsimp only; walk1) | fail "no step"))
    rename_i l1 h1 F1 lts
    refine compG_K (vs := av) (e := ea) (ax := la) (fun i zs nw => ∃ add, nw = add ++ ((l1, W.listOf #[] 0) :: (L + 1 + 1 + 1 + 1, oN) :: (lN, W.listOf vs.toArray eN) :: (lT, PyProof.Rows.LCg.lst ys) :: (la, W.listOf av.toArray ea) :: led) ∧ PairsIn nw zs ((ns.take i).map (pairF ks))) (by k_asm) N3 (.tail _ (.tail _ (.tail _ (.tail _ (.head _))))) rfl (by omega) (by with_unfolding_all rfl) (by decide) rfl (by decide) rfl ?_ ⟨[], rfl, .nil⟩ ?_ ?_
    · (repeat' (first | (k_unfold; (try dsimp only)) | ((fail_if_success (with_reducible show wpAny _ _ (call (Value.ref _) _) _ _ _)); (fail_if_success (with_reducible show wpAny _ _ (eval (PySem.Expr.ListComp _ _ _ _) _) _ _ _)); (fail_if_success (with_reducible show _ = _ ∧ _)); (fail_if_success (with_reducible show wpAny _ _ (compareOp CmpOp.Eq (Value.ref _) (Value.ref _)) _ _ _)); walk1) | ((fail_if_success (show wpAny _ _ (call (Value.ref _) _) _ _ _)); (fail_if_success (show wpAny _ _ (eval (PySem.Expr.ListComp _ _ _ _) _) _ _ _)); (fail_if_success (with_reducible show _ = _ ∧ _)); (fail_if_success (with_reducible show wpAny _ _ (compareOp CmpOp.Eq (Value.ref _) (Value.ref _)) _ _ _)); dsimp only; walk1) | fail "no step"))
      exact ⟨rfl, rfl⟩
    · rintro g i zs nw v I oI C oC D m₂ h tk E' hv ⟨add, rfl, hzs⟩ hS hC hmx F' N' off hne
      obtain ⟨n, tn, rfl, hn⟩ := hav.at i v hv
      have hb := hnr n (List.mem_of_getElem? hn)
      have hCn : h.Ns C m₂ := hC.ns (N' _ (.tail _ (.head _))).1
      obtain ⟨_, q1, q2⟩ := names_told hk n
      rw [← hvn] at q1 q2
      obtain ⟨u, hu⟩ : ∃ u, vs[(n.fmod (vs.length : Int)).toNat]? = some (.int (dval 2 (pF ks.reverse n)) u) := by
        have : (n.fmod (vs.length : Int)).toNat < vs.length := by
          have h0 := Int.fmod_nonneg_of_pos n (show (0 : Int) < vs.length by omega)
          have h1 := Int.fmod_lt_of_pos n (show (0 : Int) < vs.length by omega)
          omega
        obtain ⟨x, t, e1, e2⟩ := hvs.at _ vs[(n.fmod (vs.length : Int)).toNat] (List.getElem?_eq_getElem this)
        rw [q2] at e2
        cases e2
        exact ⟨t, by rw [List.getElem?_eq_getElem this, e1]⟩
      have hk0 : 0 ≤ n.fmod (vs.length : Int) ∧ n.fmod (vs.length : Int) < vs.length := ⟨Int.fmod_nonneg_of_pos n (by omega), Int.fmod_lt_of_pos n (by omega)⟩
      have N5 : News H L h ((L + 1 + 1 + 1 + 1, oN) :: (lN, W.listOf vs.toArray eN) :: (I, oI) :: (C, oC) :: (D, PyProof.Rows.LCg.lst zs) :: (add ++ ((l1, W.listOf #[] 0) :: (L + 1 + 1 + 1 + 1, oN) :: (lN, W.listOf vs.toArray eN) :: (lT, PyProof.Rows.LCg.lst ys) :: (la, W.listOf av.toArray ea) :: led))) := by
        intro p hp
        rcases List.mem_cons.mp hp with rfl | hp
        · exact N' _ (.tail _ (.tail _ (.tail _ (List.mem_append_right _ (.tail _ (.head _))))))
        rcases List.mem_cons.mp hp with rfl | hp
        · exact N' _ (.tail _ (.tail _ (.tail _ (List.mem_append_right _ (.tail _ (.tail _ (.head _)))))))
        · exact N' _ hp
      clear N'
      (repeat' (first | (k_unfold; (try dsimp only)) | ((fail_if_success (with_reducible show wpAny _ _ (call (Value.ref _) _) _ _ _)); (fail_if_success (with_reducible show wpAny _ _ (eval (PySem.Expr.ListComp _ _ _ _) _) _ _ _)); (fail_if_success (with_reducible show _ = _ ∧ _)); (fail_if_success (with_reducible show wpAny _ _ (compareOp CmpOp.Eq (Value.ref _) (Value.ref _)) _ _ _)); walk1) | ((fail_if_success (show wpAny _ _ (call (Value.ref _) _) _ _ _)); (fail_if_success (show wpAny _ _ (eval (PySem.Expr.ListComp _ _ _ _) _) _ _ _)); (fail_if_success (with_reducible show _ = _ ∧ _)); (fail_if_success (with_reducible show wpAny _ _ (compareOp CmpOp.Eq (Value.ref _) (Value.ref _)) _ _ _)); dsimp only; walk1) | fail "no step"))
      rename_i t9 D9 h9 F9 N9 lt9
      obtain ⟨_, z1, z2⟩ := names_told hk n
      have e1 : n.fdiv ((nmF ks).length : Int) = (pairF ks n).1 := z1.symm
      have e2 : (nmF ks).getD (n.fmod ((nmF ks).length : Int)).toNat 0 = (pairF ks n).2 := by rw [List.getD_eq_getElem?_getD, z2]; rfl
      rw [e1, e2] at N9
      have N9' : News H L h9 ((D9, tupO [.int (pairF ks n).1 (tk + 1 + 1), .int (pairF ks n).2 t9]) :: (L + 1 + 1 + 1 + 1, oN) :: (lN, W.listOf vs.toArray eN) :: (I, oI) :: (C, oC) :: (D, PyProof.Rows.LCg.lst zs) :: (add ++ ((l1, W.listOf #[] 0) :: (L + 1 + 1 + 1 + 1, oN) :: (lN, W.listOf vs.toArray eN) :: (lT, PyProof.Rows.LCg.lst ys) :: (la, W.listOf av.toArray ea) :: led))) := N9
      refine ⟨h9, _, (D9, tupO [.int (pairF ks n).1 (tk + 1 + 1), .int (pairF ks n).2 t9]) :: (add ++ ((l1, W.listOf #[] 0) :: (L + 1 + 1 + 1 + 1, oN) :: (lN, W.listOf vs.toArray eN) :: (lT, PyProof.Rows.LCg.lst ys) :: (la, W.listOf av.toArray ea) :: led)), rfl, F9, ?_, ?_, ?_, ⟨_ :: add, rfl, ?_⟩⟩
      · intro p hp
        refine N9' p ?_
        rcases List.mem_cons.mp hp with rfl | hp
        · exact .tail _ (.tail _ (.tail _ (.head _)))
        rcases List.mem_cons.mp hp with rfl | hp
        · exact .tail _ (.tail _ (.tail _ (.tail _ (.head _))))
        rcases List.mem_cons.mp hp with rfl | hp
        · exact .tail _ (.tail _ (.tail _ (.tail _ (.tail _ (.head _)))))
        rcases List.mem_cons.mp hp with rfl | hp
        · exact .head _
        · exact .tail _ (.tail _ (.tail _ (.tail _ (.tail _ (.tail _ hp)))))
      · exact ⟨⟨Nat.ne_of_gt lt9.2.2.1, Nat.ne_of_gt lt9.2.2.2.1, Nat.ne_of_gt lt9.2.2.2.2.1⟩, off⟩
      · exact .inr ⟨_, .tail _ (List.mem_append_right _ (.tail _ (.tail _ (.tail _ (.tail _ (.head _)))))), rfl, ea, rfl⟩
      · rw [List.take_add_one, hn, List.map_append]
        exact hzs.snoc
    · rintro D h tk zs nw F' N' o1 ⟨add, rfl, hzs⟩
      rw [hal, List.take_length] at hzs
      dsimp only
      refine eq_pairs_same (ps := ns.map (pairF ks)) ⟨_, (N' _ (.tail _ (List.mem_append_right _ (.tail _ (.tail _ (.tail _ (.head _))))))).1, rfl, _, rfl⟩ ⟨_, (N' _ (.head _)).1, rfl, _, rfl⟩ (((hys.pairs hk).mono h0).are (fun p hp => N' p (.tail _ (List.mem_append_right _ (.tail _ (.tail _ (.tail _ (.tail _ (.tail _ hp))))))))) (hzs.are (fun p hp => N' p (.tail _ hp))) (by units_room) (by units_room) ?_
      exact ⟨rfl, _, _, m9, rfl, F', fun p hp => N' p (.tail _ (List.mem_append_right _ (.tail _ (.tail _ (.tail _ (.tail _ (.tail _ hp)))))))⟩

end

end
-- T42
section
set_option autoImplicit false
theorem fillT42 : PySem.Challenge.rw_ij0118_01 = PySem.Challenge.rw_ij0118_01 ∧ hd.heap_1 = hd.heap_1 := by
  k_fill
  exact ⟨rfl, rfl⟩
theorem KD_ok : ∀ i, i < 11 → KOk (KD i) := by
  have h1 : ∀ i, i < 11 → (KD i).length ≤ 4 := by decide +kernel
  have h2 : ∀ i, i < 11 → ∀ j, j < (KD i).length → 0 ≤ ix (KD i) (j : Nat) ∧ ix (KD i) (j : Nat) ≤ 3 := by decide +kernel
  intro i hi
  refine ⟨h1 i hi, fun j hj0 hj1 => ?_⟩
  obtain ⟨n, rfl⟩ := Int.eq_ofNat_of_zero_le hj0
  exact h2 i hi n (by omega)
theorem ToldAre.less {ks : List Str} {led led' : List (Addr × Obj)} {ns : List Int} {ys : List Value} (h : ToldAre ks led ns ys) (hl : ∀ l vs, (l, tupO vs) ∈ led → (l, tupO vs) ∈ led') : ToldAre ks led' ns ys :=
  ⟨h.1, fun j y hy => by
    obtain ⟨n, hn, ht⟩ := h.2 j y hy
    refine ⟨n, hn, ht.1, fun h0 => ?_⟩
    obtain ⟨l, t1, t2, e, hm⟩ := ht.2 h0
    exact ⟨l, t1, t2, e, hl _ _ hm⟩⟩
theorem TOk.tab {line col : Nat} {qual : Str} {t : Obj} {news : List (Addr × Obj)} (h : TOk line col qual t news) : ∃ ps, t = tabObj ps := by
  rcases h with rfl | ⟨_, _, _, _, rfl, _⟩
  · exact ⟨_, rfl⟩
  · exact ⟨_, rfl⟩
/-- the end of the law's body -/
inductive PostL (s : Shared) (H : Heap) (L : Addr) (f : Flow) (s' : Shared) : Prop
  | mk : (f = .ret (.bool true)) → (s'.os = s.os) → (AllBare s'.gens) → ∀ m' led p1 p2 p3, (Fr H L s'.heap m') → (News H L s'.heap led) → ((54, tabObj p1) ∈ led) → ((47, tabObj p2) ∈ led) → ((99, tabObj p3) ∈ led) → PostL s H L f s'
section
variable {w : World} {E : Value → Shared → Prop} {s : Shared} {H : Heap} {L fa a : Addr} {cd : Value} {m9 : Str → Option Value} {loose : List Str} {mean : ExcName → Option Value} {mg mb : Str → Option Value} {c1 c2 c3 c4 : Obj} {v1 v2 v3 v4 : Option Value} {vs : List Value} {ns : List Int}
theorem law_all
    (F : Fr H L s.heap m9) (N : News H L s.heap [(L + 1 + 1 + 1 + 1, c4), (L + 1 + 1 + 1, c3), (L + 1 + 1, c2), (L + 1, c1), (54, tabObj #[]), (47, tabObj #[]), (99, tabObj #[])]) (X : (hd.heap_1 w.params).In H) (T : Top topProg loose mean mg mb H) (K : Below callerA H [] H)
    (d1 : c1.data = .cell v1) (d2 : c2.data = .cell v2) (d3 : c3.data = .cell v3) (d4 : c4.data = .cell v4) (p1 : m9 (Str.ofString "script") = some (.ref a)) (hLs : H.IsList a vs.toArray) (hI : IntsAre vs ns) (hlen : ns.length ≤ 63) (G : AllBare s.gens) :
    wpAny (model PySem.Challenge.rw_ij0118_01.row.prog w) (lawA w.params L fa cd) (execs (lawFn w.params).1 (lawEnv w.params L fa cd)) (PostL s H L) E s := by
  have hL := L_big X F
  have l0 : @LT.lt Nat _ 54 L ∧ @LT.lt Nat _ 47 L ∧ @LT.lt Nat _ 99 L := ⟨Nat.lt_trans (by decide) hL, Nat.lt_trans (by decide) hL, Nat.lt_trans (by decide) hL⟩
  have x541 : @LT.lt Nat _ 54 (L + 1) := Nat.lt_succ_of_lt l0.1
  have x542 : @LT.lt Nat _ 54 (L + 1 + 1) := Nat.lt_succ_of_lt x541
  have x543 : @LT.lt Nat _ 54 (L + 1 + 1 + 1) := Nat.lt_succ_of_lt x542
  have x544 : @LT.lt Nat _ 54 (L + 1 + 1 + 1 + 1) := Nat.lt_succ_of_lt x543
  have x471 : @LT.lt Nat _ 47 (L + 1) := Nat.lt_succ_of_lt l0.2.1
  have x472 : @LT.lt Nat _ 47 (L + 1 + 1) := Nat.lt_succ_of_lt x471
  have x473 : @LT.lt Nat _ 47 (L + 1 + 1 + 1) := Nat.lt_succ_of_lt x472
  have x474 : @LT.lt Nat _ 47 (L + 1 + 1 + 1 + 1) := Nat.lt_succ_of_lt x473
  have x991 : @LT.lt Nat _ 99 (L + 1) := Nat.lt_succ_of_lt l0.2.2
  have x992 : @LT.lt Nat _ 99 (L + 1 + 1) := Nat.lt_succ_of_lt x991
  have x993 : @LT.lt Nat _ 99 (L + 1 + 1 + 1) := Nat.lt_succ_of_lt x992
  have x994 : @LT.lt Nat _ 99 (L + 1 + 1 + 1 + 1) := Nat.lt_succ_of_lt x993
  have y12 : @LT.lt Nat _ (L + 1) (L + 1 + 1) := Nat.lt_succ_self _
  have y13 : @LT.lt Nat _ (L + 1) (L + 1 + 1 + 1) := Nat.lt_succ_of_lt y12
  have y14 : @LT.lt Nat _ (L + 1) (L + 1 + 1 + 1 + 1) := Nat.lt_succ_of_lt y13
  have y23 : @LT.lt Nat _ (L + 1 + 1) (L + 1 + 1 + 1) := Nat.lt_succ_self _
  have y24 : @LT.lt Nat _ (L + 1 + 1) (L + 1 + 1 + 1 + 1) := Nat.lt_succ_of_lt y23
  have y34 : @LT.lt Nat _ (L + 1 + 1 + 1) (L + 1 + 1 + 1 + 1) := Nat.lt_succ_self _
  have hxl := numsOf_len ns
  have hxr := numsOf_range ns
  -- 0: texts, kinds
  refine execs_app 1 (wpAny_mono (law_a F N X T K d1 d2 l0) (fun f sA hA => ?_) fun _ _ e => e)
  obtain ⟨rfl, hA, tA, lt, lk, et, ek, tv, kv, oT, oK, rfl, FA, NA, htv, hkv, dT, dK, a1, a2, a3⟩ := hA
  refine ⟨rfl, ?_⟩
  -- 1, 2: drawn, numbers
  refine execs_app 2 (wpAny_mono (law_b FA NA X T K p1 hLs hI hlen l0) (fun f sB hB => ?_) fun _ _ e => e)
  obtain ⟨rfl, hB, tB, mB, ln, nv, rfl, FB, NB, hnv, qn, keepB, ltB⟩ := hB
  refine ⟨rfl, ?_⟩
  rw [List.drop_drop]
  -- 3: pattern
  refine execs_app 1 (wpAny_mono (law_c FB NB X T (.head _) (.tail _ (.tail _ (.head _))) (.tail _ (.tail _ (.tail _ (.tail _ (.tail _ (.tail _ (.head _))))))) dT htv hnv hxr hxl.2 qn) (fun f sC hC => ?_) fun _ _ e => e)
  obtain ⟨rfl, hC, tC, mC, tp, rfl, FC, NC, qp, keepC⟩ := hC
  refine ⟨rfl, ?_⟩
  rw [List.drop_drop]
  have qn3 : mC (Str.ofString "numbers") = some (.ref ln) := by rw [keepC _ (by decide)]; exact qn
  have b1 := ltB (lt, listOf tv.toArray et) (.tail _ (.head _))
  have b2 := ltB (lk, listOf kv.toArray ek) (.head _)
  dsimp only at b1 b2
  have z3t : @LT.lt Nat _ (L + 1 + 1 + 1) lt := Nat.lt_trans y34 a1
  have z3k := Nat.lt_trans z3t a2
  have z3n := Nat.lt_trans z3t b1
  have z4k := Nat.lt_trans a1 a2
  have z4n := Nat.lt_trans a1 b1
  have w54t := Nat.lt_trans x544 a1
  have w47t := Nat.lt_trans x474 a1
  have w99t := a3
  have w54k := Nat.lt_trans w54t a2
  have w47k := Nat.lt_trans w47t a2
  have w99k := Nat.lt_trans w99t a2
  have w54n := Nat.lt_trans w54t b1
  have w47n := Nat.lt_trans w47t b1
  have w99n := Nat.lt_trans w99t b1
  -- 4: row
  have NC' : News H L hC ((L + 1 + 1 + 1, c3) :: [(ln, listOf nv.toArray 0), (lk, listOf kv.toArray ek), (lt, listOf tv.toArray et), (L + 1 + 1 + 1 + 1, c4), (L + 1 + 1, oK), (L + 1, oT), (54, tabObj #[]), (47, tabObj #[]), (99, tabObj #[])]) := news_perm NC (by repeat (first | exact List.forall_mem_nil _ | refine List.forall_mem_cons.mpr ⟨by k_mem, ?_⟩))
  clear NC NB NA N
  refine execs_app 1 (wpAny_mono (law_d FC NC' X T d3 ?ne4 (.head _) (.tail _ (.head _)) (.tail _ (.tail _ (.tail _ (.tail _ (.head _))))) dK hkv hnv hxr hxl.2 qn3) (fun f sD hD => ?_) fun _ _ e => e)
  case ne4 =>
    simp only [List.forall_mem_cons, List.not_mem_nil, false_imp_iff, implies_true, and_true]
    refine ⟨?_, ?_, ?_, ?_, ?_, ?_, ?_, ?_, ?_⟩ <;> (with_reducible first | exact Nat.ne_of_gt (by assumption) | exact Nat.ne_of_lt (by assumption) | decide)
  obtain ⟨rfl, hD, tD, lr, rv, er, oW, rfl, FD, ND, hrv, dW, neD, neD3⟩ := hD
  refine ⟨rfl, ?_⟩
  rw [List.drop_drop]
  have r99 := neD (99, tabObj #[]) (by k_mem)
  have r54 := neD (54, tabObj #[]) (by k_mem)
  have r47 := neD (47, tabObj #[]) (by k_mem)
  have r4 := neD (L + 1 + 1 + 1 + 1, c4) (by k_mem)
  dsimp only at r99 r54 r47 r4
  have qp4 : mC (Str.ofString "pattern") = some (.str (catS ((itemsOf (numsOf ns)).map TX)) tp) := qp
  have hil : (itemsOf (numsOf ns)).length ≤ 4 := by unfold itemsOf; rw [List.length_map]; exact hxl.2
  have hil3 : 3 ≤ (itemsOf (numsOf ns)).length := by unfold itemsOf; rw [List.length_map]; exact hxl.1
  have his := itemsOf_lt (numsOf ns)
  -- 5: parts
  have ND' : News H L hD ((99, tabObj #[]) :: [(lr, listOf rv.toArray er), (L + 1 + 1 + 1, oW), (ln, listOf nv.toArray 0), (lk, listOf kv.toArray ek), (lt, listOf tv.toArray et), (L + 1 + 1 + 1 + 1, c4), (L + 1 + 1, oK), (L + 1, oT), (54, tabObj #[]), (47, tabObj #[])]) := news_perm ND (by repeat (first | exact List.forall_mem_nil _ | refine List.forall_mem_cons.mpr ⟨by k_mem, ?_⟩))
  clear ND NC'
  refine execs_app 1 (wpAny_mono (law_e FD ND' X T K ?ne5 ⟨#[], rfl, trivial⟩ G his hil qp4) (fun f sE hE => ?_) fun _ _ e => e)
  case ne5 =>
    simp only [List.forall_mem_cons, List.not_mem_nil, false_imp_iff, implies_true, and_true]
    refine ⟨Ne.symm r99, ?_, ?_, ?_, ?_, ?_, ?_, ?_, ?_, ?_⟩ <;> (with_reducible first | exact Nat.ne_of_gt (by assumption) | exact Nat.ne_of_lt (by assumption) | decide)
  obtain ⟨rfl, mE, lp, pv, ep, t9, osE, FE, NE, hpv, ok9, GE, qpa, keepE, ltE, lp99⟩ := hE
  refine ⟨rfl, ?_⟩
  rw [List.drop_drop]
  have e4 := ltE (L + 1 + 1 + 1 + 1, c4) (by k_mem)
  have en := ltE (ln, listOf nv.toArray 0) (by k_mem)
  have er' := ltE (lr, listOf rv.toArray er) (by k_mem)
  dsimp only at e4 en er'
  have w54p := Nat.lt_trans (show 54 < 99 by decide) lp99
  have w47p := Nat.lt_trans (show 47 < 99 by decide) lp99
  have qp5 : mE (Str.ofString "pattern") = some (.str (catS ((itemsOf (numsOf ns)).map TX)) tp) := by rw [keepE _ (by decide)]; exact qp
  have qn5 : mE (Str.ofString "numbers") = some (.ref ln) := by rw [keepE _ (by decide)]; exact qn3
  clear ND'
  -- 6: taken
  refine execs_app 1 (wpAny_mono (law_f FE NE X T K (by k_mem) (by k_mem) (by k_mem) dW hpv hrv his hil qpa) (fun f sF hF => ?_) fun _ _ e => e)
  obtain ⟨rfl, hF, tF, rfl, FF, NF⟩ := hF
  refine ⟨rfl, ?_⟩
  rw [List.drop_drop]
  clear NE
  -- 7: translate
  refine execs_app 1 (wpAny_mono (law_g FF NF X T K ?ne7 ok9 GE his hil (by k_mem) hpv qp5 qpa) (fun f sG hG => ?_) fun _ _ e => e)
  case ne7 =>
    simp only [List.forall_mem_cons, List.not_mem_nil, false_imp_iff, implies_true, and_true]
    refine ⟨?_, Ne.symm r99, ?_, ?_, ?_, ?_, ?_, ?_, ?_, ?_, ?_⟩ <;> (with_reducible first | exact Nat.ne_of_gt (by assumption) | exact Nat.ne_of_lt (by assumption) | decide)
  obtain ⟨rfl, t9', osG, FG, NG, ok9', GG⟩ := hG
  refine ⟨rfl, ?_⟩
  rw [List.drop_drop]
  clear NF
  -- 8: asked
  refine execs_app 1 (wpAny_mono (law_h FG NG X T K (nv := nv) (en := 0) (ln := ln) (by k_mem) hnv hxr hxl.2 qn5) (fun f sH hH => ?_) fun _ _ e => e)
  obtain ⟨rfl, hH, tH, mH, la, av, ea, rfl, FH, NH, hav, qa, keepH, ltH⟩ := hH
  refine ⟨rfl, ?_⟩
  rw [List.drop_drop]
  clear NG
  have a4 := ltH (L + 1 + 1 + 1 + 1, c4) (by k_mem)
  have a99 := ltH (99, t9') (.head _)
  dsimp only at a4 a99
  have w54a := Nat.lt_trans (show 54 < 99 by decide) a99
  have w47a := Nat.lt_trans (show 47 < 99 by decide) a99
  -- 9: told
  have ksok : ∀ k ∈ (itemsOf (numsOf ns)).map KD, KOk k := by
    intro k hk
    obtain ⟨i, hi, rfl⟩ := List.mem_map.mp hk
    exact KD_ok i (his i hi)
  have hkl : ((itemsOf (numsOf ns)).map KD).length ≤ 4 := by rw [List.length_map]; exact hil
  have hkl2 : 0 < ((itemsOf (numsOf ns)).map KD).length := by rw [List.length_map]; omega
  have hasl : (asksOf (numsOf ns)).length ≤ 5 := by unfold asksOf; rw [List.length_append, List.length_map]; have := hxl.2; show 1 + _ ≤ 5; omega
  have NH' : News H L hH ((54, tabObj #[]) :: (47, tabObj #[]) :: ((L + 1 + 1 + 1 + 1, c4) :: [(la, listOf av.toArray ea), (99, t9'), (lp, listOf pv.toArray ep), (lr, listOf rv.toArray er), (L + 1 + 1 + 1, oW), (ln, listOf nv.toArray 0), (lk, listOf kv.toArray ek), (lt, listOf tv.toArray et), (L + 1 + 1, oK), (L + 1, oT)])) := news_perm NH (by repeat (first | exact List.forall_mem_nil _ | refine List.forall_mem_cons.mpr ⟨by k_mem, ?_⟩))
  clear NH
  refine execs_app 1 (wpAny_mono (law_i FH NH' X T K ?ne9 (.inl rfl) (.inl rfl) (K := []) (fun _ h => (List.not_mem_nil h).elim) (by k_mem) (by k_mem) (by k_mem) dW hav (asksOf_range _) hasl hrv ksok hkl hkl2 qa) (fun f sI hI => ?_) fun _ _ e => e)
  case ne9 =>
    simp only [List.forall_mem_cons, List.not_mem_nil, false_imp_iff, implies_true, and_true]
    refine ⟨⟨?_, ?_⟩, ⟨?_, ?_⟩, ⟨?_, ?_⟩, ⟨?_, ?_⟩, ⟨Ne.symm r54, Ne.symm r47⟩, ⟨?_, ?_⟩, ⟨?_, ?_⟩, ⟨?_, ?_⟩, ⟨?_, ?_⟩, ⟨?_, ?_⟩, ⟨?_, ?_⟩⟩ <;> (with_reducible first | exact Nat.ne_of_gt (by assumption) | exact Nat.ne_of_lt (by assumption) | decide)
  obtain ⟨rfl, hI, tI, mI, lT, ys, nw, rfl, FI, NI, ⟨u1, u2, K1, add, rfl, k1, k2, hK1, g1, g2, hys⟩, qt, keepI, neT⟩ := hI
  refine ⟨rfl, ?_⟩
  rw [List.drop_drop]
  clear NH'
  have qa9 : mI (Str.ofString "asked") = some (.ref la) := by rw [keepI _ (by decide)]; exact qa
  have hys' := hys.less (led' := add ++ [(la, listOf av.toArray ea), (99, t9'), (lp, listOf pv.toArray ep), (lr, listOf rv.toArray er), (L + 1 + 1 + 1, oW), (ln, listOf nv.toArray 0), (lk, listOf kv.toArray ek), (lt, listOf tv.toArray et), (L + 1 + 1, oK), (L + 1, oT)]) (fun l vs hm => by
    rcases List.mem_append.mp hm with hm | hm
    · exact List.mem_append_left _ hm
    rcases List.mem_cons.mp hm with hm | hm
    · have e := congrArg (fun p => p.2.data) hm
      dsimp only at e
      rw [d4] at e
      cases e
    · exact List.mem_append_right _ hm)
  -- 10: names
  have NI' : News H L hI ((L + 1 + 1 + 1 + 1, c4) :: ((lT, PyProof.Rows.LCg.lst ys) :: (54, u1) :: (47, u2) :: (add ++ [(la, listOf av.toArray ea), (99, t9'), (lp, listOf pv.toArray ep), (lr, listOf rv.toArray er), (L + 1 + 1 + 1, oW), (ln, listOf nv.toArray 0), (lk, listOf kv.toArray ek), (lt, listOf tv.toArray et), (L + 1 + 1, oK), (L + 1, oT)]))) := by
    intro p hp
    refine NI p ?_
    rcases List.mem_cons.mp hp with rfl | hp
    · exact .tail _ (.tail _ (.tail _ (List.mem_append_right _ (.head _))))
    rcases List.mem_cons.mp hp with rfl | hp
    · exact .head _
    rcases List.mem_cons.mp hp with rfl | hp
    · exact .tail _ (.head _)
    rcases List.mem_cons.mp hp with rfl | hp
    · exact .tail _ (.tail _ (.head _))
    refine .tail _ (.tail _ (.tail _ ?_))
    rcases List.mem_append.mp hp with hp | hp
    · exact List.mem_append_left _ hp
    · exact List.mem_append_right _ (.tail _ hp)
  have nT4 := neT (L + 1 + 1 + 1 + 1, c4) (.tail _ (.tail _ (List.mem_append_right _ (.head _))))
  clear NI
  refine execs_app 1 (wpAny_mono (law_j FI NI' X T K d4 ?ne10 (lr := lr) (rv := rv) (er := er) (oW := oW) (ks := (itemsOf (numsOf ns)).map KD) (.tail _ (.tail _ (.tail _ (List.mem_append_right _ (by k_mem))))) (.tail _ (.tail _ (.tail _ (List.mem_append_right _ (by k_mem))))) dW hrv ksok hkl) (fun f sJ hJ => ?_) fun _ _ e => e)
  case ne10 =>
    have hR : ∀ q ∈ ([(la, listOf av.toArray ea), (99, t9'), (lp, listOf pv.toArray ep), (lr, listOf rv.toArray er), (L + 1 + 1 + 1, oW), (ln, listOf nv.toArray 0), (lk, listOf kv.toArray ek), (lt, listOf tv.toArray et), (L + 1 + 1, oK), (L + 1, oT)] : List (Addr × Obj)), q.1 ≠ L + 1 + 1 + 1 + 1 := by
      simp only [List.forall_mem_cons, List.not_mem_nil, false_imp_iff, implies_true, and_true]
      refine ⟨?_, ?_, ?_, Ne.symm r4, ?_, ?_, ?_, ?_, ?_, ?_⟩ <;> (with_reducible first | exact Nat.ne_of_gt (by assumption) | exact Nat.ne_of_lt (by assumption) | decide)
    intro q hq
    rcases List.mem_cons.mp hq with rfl | hq
    · exact Ne.symm nT4
    rcases List.mem_cons.mp hq with rfl | hq
    · (with_reducible first | exact Nat.ne_of_gt (by assumption) | exact Nat.ne_of_lt (by assumption) | decide)
    rcases List.mem_cons.mp hq with rfl | hq
    · (with_reducible first | exact Nat.ne_of_gt (by assumption) | exact Nat.ne_of_lt (by assumption) | decide)
    rcases List.mem_append.mp hq with hq | hq
    · exact Nat.ne_of_gt (g2 q hq (L + 1 + 1 + 1 + 1, c4) (.head _))
    exact hR q hq
  obtain ⟨rfl, hJ, tJ, lN, vN, eN, oN, rfl, FJ, NJ, hvN, dN, ltN'⟩ := hJ
  refine ⟨rfl, ?_⟩
  rw [List.drop_drop]
  -- 11, 12: the end
  have hnf := nmF_facts _ ksok
  have h256 : 4 ^ ((itemsOf (numsOf ns)).map KD).length ≤ 4 ^ 4 := Nat.pow_le_pow_right (by decide) hkl
  refine wpAny_mono (law_k FJ NJ X T K (la := la) (av := av) (ea := ea) (lT := lT) (ys := ys) (lN := lN) (vs := vN) (eN := eN) (oN := oN) (led0 := add ++ [(la, listOf av.toArray ea), (99, t9'), (lp, listOf pv.toArray ep), (lr, listOf rv.toArray er), (L + 1 + 1 + 1, oW), (ln, listOf nv.toArray 0), (lk, listOf kv.toArray ek), (lt, listOf tv.toArray et), (L + 1 + 1, oK), (L + 1, oT)]) (ns := asksOf (numsOf ns)) (ks := (itemsOf (numsOf ns)).map KD)
    (.tail _ (.tail _ (.tail _ (.tail _ (.tail _ (List.mem_append_right _ (.head _))))))) (.tail _ (.tail _ (.head _))) (.tail _ (.head _)) (.head _) dN (fun p hp => .tail _ (.tail _ (.tail _ (.tail _ (.tail _ hp))))) hav (asksOf_range _) hasl hys' hvN (by omega) (fun n hn => ⟨(hnf.2 n hn).1, ?_⟩) qa9 qt) (fun f sK hK => ?_) fun _ _ e => e
  · have := (hnf.2 n hn).2
    have h : (4 : Int) ^ ((itemsOf (numsOf ns)).map KD).length ≤ 256 := by exact_mod_cast h256
    omega
  obtain ⟨rfl, hK, tK, mK, rfl, FK, NK⟩ := hK
  obtain ⟨ps1, rfl⟩ := k1.tab
  obtain ⟨ps2, rfl⟩ := k2.tab
  obtain ⟨ps3, rfl, _⟩ := ok9'
  exact ⟨rfl, osG.trans osE, GG, mK, _, ps1, ps2, ps3, FK, NK, .tail _ (.tail _ (.tail _ (.head _))), .tail _ (.tail _ (.tail _ (.tail _ (.head _)))), .tail _ (.tail _ (.tail _ (.tail _ (.tail _ (List.mem_append_right _ (.tail _ (.head _)))))))⟩
end

end
-- T43
section
theorem fillT43 : PySem.Challenge.rw_ij0118_01 = PySem.Challenge.rw_ij0118_01 ∧ hd.heap_1 = hd.heap_1 := by
  k_fill
  exact ⟨rfl, rfl⟩
end
local macro_rules | `(tactic| kn_posts) => `(tactic| refine kn_postB (by assumption) (fun _ _ => rfl) (by first | rfl | wrow_post) ?_)
section
set_option Elab.async true
theorem top.tw10005945817407372193 : True := trivial
theorem top.tw357486453476387696 : True := trivial
theorem top.tw10090393231696489298 : True := trivial
theorem top.tw10187264123177260123 : True := trivial
theorem top.tw10404823597219466188 : True := trivial
theorem top.tw1047907039808853306 : True := trivial
theorem top.tw10567129059001840431 : True := trivial
theorem top.tw10648311167861321448 : True := trivial
theorem top.tw10665585003947065092 : True := trivial
theorem top.tw10773188271377071773 : True := trivial
theorem top.tw1088946173253831356 : True := trivial
theorem top.tw10915162052029792233 : True := trivial
theorem top.tw10936122117785486979 : True := trivial
theorem top.tw10989066668313759200 : True := trivial
theorem top.tw1139600151236580504 : True := trivial
theorem top.tw11430207588045935325 : True := trivial
theorem top.tw11459358961799972967 : True := trivial
theorem top.tw1149218181149386328 : True := trivial
theorem top.tw11858546649754279707 : True := trivial
theorem top.tw11922380849998532372 : True := trivial
theorem top.tw1195175773429642966 : True := trivial
theorem top.tw12012865196380796599 : True := trivial
theorem top.tw12102947074072374899 : True := trivial
theorem top.tw1212798325632107971 : True := trivial
theorem top.tw12216630987165489725 : True := trivial
theorem top.tw12317137736924338119 : True := trivial
theorem top.tw12318557346453588183 : True := trivial
theorem top.tw12342655685612074800 : True := trivial
theorem top.tw12392516345856041104 : True := trivial
theorem top.tw12540527436937284434 : True := trivial
theorem top.tw12622177474791663080 : True := trivial
theorem top.tw12643491718579748851 : True := trivial
theorem top.tw1275901062530889299 : True := trivial
theorem top.tw12819366960792805191 : True := trivial
theorem top.tw1284575025550258836 : True := trivial
theorem top.tw13091174067606910046 : True := trivial
theorem top.tw13120753694373217308 : True := trivial
theorem top.tw13160728816969591200 : True := trivial
theorem top.tw13177472732611162249 : True := trivial
theorem top.tw13272337422414781067 : True := trivial
theorem top.tw13303987763403120937 : True := trivial
theorem top.tw13359135706311490777 : True := trivial
theorem top.tw13369591340354186047 : True := trivial
theorem top.tw13498101095514990694 : True := trivial
theorem top.tw13501252493785611398 : True := trivial
theorem top.tw1350575918064645229 : True := trivial
theorem top.tw13664746368384525793 : True := trivial
theorem top.tw13896958669275611876 : True := trivial
theorem top.tw1400011881503588481 : True := trivial
theorem top.tw14142502885225118848 : True := trivial
theorem top.tw14168018189251442112 : True := trivial
theorem top.tw14177919720447124146 : True := trivial
theorem top.tw14208091113509526093 : True := trivial
theorem top.tw14349089067433371257 : True := trivial
theorem top.tw14371913498598963198 : True := trivial
theorem top.tw14372152842798730730 : True := trivial
theorem top.tw14402358008270493973 : True := trivial
theorem top.tw14459580976405569124 : True := trivial
theorem top.tw14533951869480809633 : True := trivial
theorem top.tw14597223018079223185 : True := trivial
theorem top.tw14608685727046917156 : True := trivial
theorem top.tw14789260269991461300 : True := trivial
theorem top.tw14796646475526232899 : True := trivial
theorem top.tw14823308797102314842 : True := trivial
theorem top.tw14851680436948445374 : True := trivial
theorem top.tw14861896470697024400 : True := trivial
theorem top.tw14917401599646851644 : True := trivial
theorem top.tw14987219478266130788 : True := trivial
theorem top.tw1502579317749319900 : True := trivial
theorem top.tw1516213087968936877 : True := trivial
theorem top.tw15169761463676818070 : True := trivial
theorem top.tw15177526630643400193 : True := trivial
theorem top.tw15361541807878343388 : True := trivial
theorem top.tw15470379304558344453 : True := trivial
theorem top.tw15646934709686841381 : True := trivial
theorem top.tw1585457916280141200 : True := trivial
theorem top.tw15860264024139754761 : True := trivial
theorem top.tw15865747894454325196 : True := trivial
theorem top.tw15985961358823992270 : True := trivial
theorem top.tw16044733080236030384 : True := trivial
theorem top.tw16058212318047004132 : True := trivial
theorem top.tw16123964013534891561 : True := trivial
theorem top.tw16131081028893534354 : True := trivial
theorem top.tw1617357707322924660 : True := trivial
theorem top.tw16174758807025615021 : True := trivial
theorem top.tw16196420915677631385 : True := trivial
theorem top.tw16204670001084760307 : True := trivial
theorem top.tw16228763044005930535 : True := trivial
theorem top.tw16266980208029342503 : True := trivial
theorem top.tw16352630495959832749 : True := trivial
theorem top.tw16420938139371093754 : True := trivial
theorem top.tw16439428074185983240 : True := trivial
theorem top.tw16577533722863086443 : True := trivial
theorem top.tw16580785732701462914 : True := trivial
theorem top.tw16713831800681072344 : True := trivial
theorem top.tw1676862907878916244 : True := trivial
theorem top.tw16782997733028217545 : True := trivial
theorem top.tw16795567611416646642 : True := trivial
theorem top.tw16840627104734473223 : True := trivial
theorem top.tw16869466441177433936 : True := trivial
theorem top.tw16885616592811714743 : True := trivial
theorem top.tw16900427199656544559 : True := trivial
theorem top.tw17045540407009483373 : True := trivial
theorem top.tw17081178143035459574 : True := trivial
theorem top.tw17113452852695674274 : True := trivial
theorem top.tw17177869089781658578 : True := trivial
theorem top.tw17280477951071501910 : True := trivial
theorem top.tw1732150942055357024 : True := trivial
theorem top.tw17469865338272021226 : True := trivial
theorem top.tw17492772389151264855 : True := trivial
theorem top.tw17565814175750979855 : True := trivial
theorem top.tw17810072253543177317 : True := trivial
theorem top.tw17886615442053742456 : True := trivial
theorem top.tw18008055252877512497 : True := trivial
theorem top.tw18034075008235765660 : True := trivial
theorem top.tw18085771088847121727 : True := trivial
theorem top.tw18086089286151905521 : True := trivial
theorem top.tw18194552166560175392 : True := trivial
theorem top.tw18310307154409219685 : True := trivial
theorem top.tw1869187583165140508 : True := trivial
theorem top.tw2057334267981633021 : True := trivial
theorem top.tw207392147570674490 : True := trivial
theorem top.tw2145171640123136144 : True := trivial
theorem top.tw216529984938456764 : True := trivial
theorem top.tw2218668502564051296 : True := trivial
theorem top.tw2243170655852947205 : True := trivial
theorem top.tw2287823674025257028 : True := trivial
theorem top.tw2369445192022557226 : True := trivial
theorem top.tw2443449257678562572 : True := trivial
theorem top.tw2462062305354472974 : True := trivial
theorem top.tw2464713573024523455 : True := trivial
theorem top.tw2514443458684651071 : True := trivial
theorem top.tw2617719716777270872 : True := trivial
theorem top.tw2731995056826638727 : True := trivial
theorem top.tw2741389259953327712 : True := trivial
theorem top.tw2782073688633401757 : True := trivial
theorem top.tw2812155379371279736 : True := trivial
theorem top.tw2835187731363253809 : True := trivial
theorem top.tw2924597203103170677 : True := trivial
theorem top.tw2985252069258134486 : True := trivial
theorem top.tw3176535264509419967 : True := trivial
theorem top.tw3195968871104189447 : True := trivial
theorem top.tw3430127420881650015 : True := trivial
theorem top.tw3567177698169325468 : True := trivial
theorem top.tw3969286963782609292 : True := trivial
theorem top.tw4166218997396506358 : True := trivial
theorem top.tw4186445540838780016 : True := trivial
theorem top.tw4205137553216949640 : True := trivial
theorem top.tw4213018616267185653 : True := trivial
theorem top.tw422590778465621827 : True := trivial
theorem top.tw4321519831107876412 : True := trivial
theorem top.tw4498253355057717688 : True := trivial
theorem top.tw4571971715460732019 : True := trivial
theorem top.tw4655869559712951663 : True := trivial
theorem top.tw4656485037274611717 : True := trivial
theorem top.tw4671429814451907529 : True := trivial
theorem top.tw4680269561136488386 : True := trivial
theorem top.tw4713442408853163898 : True := trivial
theorem top.tw4970835505579070582 : True := trivial
theorem top.tw5088376156974544275 : True := trivial
theorem top.tw5105846836358774362 : True := trivial
theorem top.tw5118827330378232414 : True := trivial
theorem top.tw5225153198818245361 : True := trivial
theorem top.tw5244899138074338376 : True := trivial
theorem top.tw5303079699428457377 : True := trivial
theorem top.tw5405092056839124451 : True := trivial
theorem top.tw5476889619067714990 : True := trivial
theorem top.tw5523086135645875356 : True := trivial
theorem top.tw5524087456088295120 : True := trivial
theorem top.tw5581607755468803823 : True := trivial
theorem top.tw5667650583090716360 : True := trivial
theorem top.tw5676724533059319181 : True := trivial
theorem top.tw5766051744304087583 : True := trivial
theorem top.tw5889316905344633881 : True := trivial
theorem top.tw5969682004907312646 : True := trivial
theorem top.tw614279269813649353 : True := trivial
theorem top.tw6187478851450931391 : True := trivial
theorem top.tw6333448901615975916 : True := trivial
theorem top.tw6370870915552960936 : True := trivial
theorem top.tw6438537300738474071 : True := trivial
theorem top.tw6491118196486620199 : True := trivial
theorem top.tw6495677840255480795 : True := trivial
theorem top.tw6520327441239513222 : True := trivial
theorem top.tw6527726513328843271 : True := trivial
theorem top.tw6664487174759623829 : True := trivial
theorem top.tw6694047246710070196 : True := trivial
theorem top.tw670521403031812673 : True := trivial
theorem top.tw6749217079512962374 : True := trivial
theorem top.tw6756868429301003459 : True := trivial
theorem top.tw6859976401760118174 : True := trivial
theorem top.tw6883741973766446791 : True := trivial
theorem top.tw705360758644809490 : True := trivial
theorem top.tw7100016671515904942 : True := trivial
theorem top.tw72247145696351765 : True := trivial
theorem top.tw7414872774492366064 : True := trivial
theorem top.tw7429413206186439793 : True := trivial
theorem top.tw7458633546980236471 : True := trivial
theorem top.tw7537321990764116385 : True := trivial
theorem top.tw7557910624720293991 : True := trivial
theorem top.tw7673058066778466091 : True := trivial
theorem top.tw7740461459972228597 : True := trivial
theorem top.tw775762912060472103 : True := trivial
theorem top.tw7830913209206220567 : True := trivial
theorem top.tw7855079511596107753 : True := trivial
theorem top.tw795583310449317561 : True := trivial
theorem top.tw8107780213005350392 : True := trivial
theorem top.tw8139039716903228087 : True := trivial
theorem top.tw814325599930780420 : True := trivial
theorem top.tw8143265674769528471 : True := trivial
theorem top.tw8265191368974092141 : True := trivial
theorem top.tw8363718466572441477 : True := trivial
theorem top.tw8443935842833279946 : True := trivial
theorem top.tw8507776931139520737 : True := trivial
theorem top.tw8598144960395782539 : True := trivial
theorem top.tw860223938195835975 : True := trivial
theorem top.tw8640399195822439974 : True := trivial
theorem top.tw8645369167282567922 : True := trivial
theorem top.tw8689318265317240412 : True := trivial
theorem top.tw8735323631387419056 : True := trivial
theorem top.tw8892184565913893157 : True := trivial
theorem top.tw9063741608606530840 : True := trivial
theorem top.tw908825868028484722 : True := trivial
theorem top.tw9229161468869434483 : True := trivial
theorem top.tw9378254376102152143 : True := trivial
theorem top.tw9382581127745807760 : True := trivial
theorem top.tw9437893007894698314 : True := trivial
theorem top.tw9503340733035011235 : True := trivial
theorem top.tw9514973924220054061 : True := trivial
theorem top.tw956942650209027819 : True := trivial
theorem top.tw9614876229902214918 : True := trivial
theorem top.tw9631074621892390191 : True := trivial
theorem top.tw9685306978477570941 : True := trivial
theorem top.tw9768079942903668216 : True := trivial
theorem top.tw9769099282710625457 : True := trivial
theorem top.tw9800703332001039478 : True := trivial
theorem top.tw9825436776141319713 : True := trivial
theorem top.tw987869383939708018 : True := trivial
theorem top : PySem.Challenge.rw_ij0118_01.Holds := by
  w_on
  o_law
  o_head (kmHook hd.heap_1 [2, 3, 6, 11, 12, 32, 34, 35, 37, 38, 39, 41, 42, 44, 45, 46, 48, 49, 51, 52, 53, 55, 56, 58, 59, 60, 62, 63, 65, 66, 67, 69, 70, 72, 73, 77, 78, 79, 81, 82, 84, 85, 87, 91, 93, 94, 96, 97, 98, 100, 101, 103, 104, 105, 107, 108, 110, 111, 112, 114, 115, 117, 118, 119, 122, 123, 124, 126, 127, 129, 130, 131, 134, 135, 136, 139, 140] (fun _ => by kernel_rfl) [54, 47, 99])
  case hw => w_witness2
  k_go0
  all_goals (try k_fold)
  rename World => w
  rename (hd.heap_1 w.params).In (ghostOf _ _) => X'
  rename Fr (ghostOf _ _) _ _ _ => F'
  rename News (ghostOf _ _) _ _ _ => N'
  rename Top topProg _ _ _ _ (ghostOf _ _) => T'
  rename Below callerA (ghostOf _ _) [] (ghostOf _ _) => K'
  rename Heap.IsList (ghostOf _ _) _ _ => lI
  rename IntsAre _ _ => hI
  show wpAny (model PySem.Challenge.rw_ij0118_01.row.prog w) (lawA w.params _ _ _) (execs (lawFn w.params).1 (lawEnv w.params _ _ _)) _ _ _
  refine wpAny_mono (law_all F' N' X' T' K' (by assumption) (by assumption) (by assumption) (by assumption) ?p1 lI hI ?ln ?gg) (fun f s h => ?_) fun _ _ e => e
  case ln => omega
  case gg => exact AllBare.of_eq (by assumption)
  case p1 => with_unfolding_all rfl
  obtain ⟨rfl, h1, h2, m', led, p1, p2, p3, F2, N2, q1, q2, q3⟩ := h
  exact ⟨rfl, F2.keep, h1, h2, .of N2 q1, .of N2 q2, .of N2 q3, trivial⟩

end
end Mine
theorem PySem.Challenge.cw_ij0118_01_holds : PySem.Challenge.rw_ij0118_01.Holds :=
  Mine.top
