import PyProof.Rows.All
import Wide.All
import OpenK.AllK
import Wide.FinOn
import PySem.Challenge.RW_rs0060_01
set_option Elab.async false
set_option maxRecDepth 100000
set_option linter.unusedVariables false
namespace Mine
section
open PySem PySem.W PyProof.Rows
set_option maxHeartbeats 8000000
/-- the statements of the text that the view keeps, by their places -/
noncomputable def pickAt (l : List Stmt) : List Nat → List Stmt
  | [] => []
  | i :: r => match l[i]? with
    | some x => x :: pickAt l r
    | none => pickAt l r
noncomputable def view : Program := { PySem.Challenge.pw_rs0060_01 with main := { PySem.Challenge.pw_rs0060_01.main with body := pickAt PySem.Challenge.pw_rs0060_01.main.body [1, 2, 3, 5, 6, 7, 8, 10, 11, 12, 13, 14, 16, 17, 18, 19, 20, 21, 22, 23, 24] } }
local macro_rules | `(tactic| o_head $H) => do
  let hw := Lean.mkIdent `hw
  let hc := Lean.mkIdent `hc
  `(tactic| (refine holds_open (q := view) (loose := [Str.ofString "COMPILER_FLAG_NAMES"]) (Xt := fun s => xlAt view [] s && recOk (RowW.records (OpenRow.toRowW PySem.Challenge.rw_rs0060_01.row)) s) (XP := XL view []) (Yf := Hook.obs $H) (Ya := Hook.val $H) (YP := Hook.says $H) (N := 1482) ?hl (Hook.of $H) (Hook.keeps $H) (fun s e => xl_of s (Bool.and_eq_true_iff.mp e).1) XL.keeps (by rfl) (by rfl) (by rfl) (fun s e => recFacts_of (Bool.and_eq_true_iff.mp e).2) (by rfl) (by first | assumption | decide +kernel) (by decide +kernel) ⟨rfl, rfl, rfl, rfl, rfl, by decide +kernel⟩ ?$hw ?$hc; (case hl => exact LeftO.of_split "special-get-raises" (fun w => by kernel_rfl!))))
open_top hd for PySem.Challenge.rw_rs0060_01
end
section
open PySem PySem.W PySem.Spec PySem.Calls PyProof.Rows
def Stop (P : Prop) : Prop := P
theorem Stop.mk {P : Prop} (h : Stop P) : P := h
theorem Stop.go {P : Prop} (h : P) : Stop P := h
noncomputable abbrev PG := PySem.Challenge.pw_rs0060_01
noncomputable abbrev LZ := looseW view [Str.ofString "COMPILER_FLAG_NAMES"]
end
open PySem PySem.W PySem.Spec PySem.Calls PyProof.Rows
local macro_rules | `(tactic| walk_at $s:str) => `(tactic| k_extra $s)
section
open PySem PySem.W PySem.Spec PySem.Calls PyProof.Rows
end
local macro_rules | `(tactic| k_mem) => `(tactic| first | (with_reducible exact List.mem_cons_self) | (with_reducible assumption) | (refine List.mem_cons_of_mem _ ?_; k_mem) | (refine List.mem_append.mpr (Or.inl ?_); k_mem) | (refine List.mem_append.mpr (Or.inr ?_); k_mem))
section
open PySem PySem.W PySem.Spec PySem.Calls PyProof.Rows
end
local macro_rules | `(tactic| k_memK) => `(tactic| k_mem)
section
open PySem PySem.W PySem.Spec PySem.Calls PyProof.Rows
/-- a contract of a def: called from a def's frame, under a ledger that meets Pre, it comes back with new objects tl and a value that meet Post -/
noncomputable def Spec (w : World) (mean : ExcName → Option Value) (mg mb : Str → Option Value) (f : Addr) (size : Nat) (vs : List Value) (Pre : List (Addr × Obj) → Prop) (Post : List (Addr × Obj) → Value → Prop) : Prop :=
  ∀ (dp un : Nat) (gd : Option (List Code)) (cn : Str) (cs : Scope) (a : Addr) (ccd : Value) (cl : List (Str × Addr)) (outer : List Env) (A₀ : Around) (base h₀ : Heap) (L : Addr) (m : Str → Option Value) (news : List (Addr × Obj)) (s : Shared)
    (Q E : Value → Shared → Prop),
    Below A₀ base outer h₀ → Fr h₀ L s.heap m → (hd.heap_39 w.params).In h₀ → News h₀ L s.heap news → Top view LZ mean mg mb h₀ → cs.kind = .function → Pre news → dp + size < recursionLimit → un + 8 * size < cLine →
    (∀ r tl h' tk', Fr h₀ L h' m → News h₀ L h' (tl ++ news) → (∀ p ∈ tl, ∀ q ∈ news, q.1 < p.1) → Post tl r → Q r { s with heap := h', toks := tk' }) →
    wpAny (model PG w) (ktrTop dp un gd cn cs L a ccd cl outer) (call (.ref f) vs) Q E s
theorem Spec.use {w : World} {mean : ExcName → Option Value} {mg mb : Str → Option Value} {f : Addr} {size : Nat} {vs : List Value} {Pre : List (Addr × Obj) → Prop} {Post : List (Addr × Obj) → Value → Prop}
    (C : Spec w mean mg mb f size vs Pre Post)
    {dp un : Nat} {gd : Option (List Code)} {cn : Str} {cs : Scope} {a : Addr} {ccd : Value} {cl : List (Str × Addr)} {outer : List Env} {A₀ : Around} {base h₀ : Heap} {L : Addr} {m : Str → Option Value} {news : List (Addr × Obj)} {s : Shared}
    {Q E : Value → Shared → Prop}
    (B : Below A₀ base outer h₀) (F : Fr h₀ L s.heap m) (X : (hd.heap_39 w.params).In h₀) (N : News h₀ L s.heap news) (T : Top view LZ mean mg mb h₀) (hk : cs.kind = .function) (hP : Pre news) (hdp : dp + size < recursionLimit) (hun : un + 8 * size < cLine)
    (ret : ∀ r tl h' tk', Fr h₀ L h' m → News h₀ L h' (tl ++ news) → (∀ p ∈ tl, ∀ q ∈ news, q.1 < p.1) → Post tl r → Q r { s with heap := h', toks := tk' }) :
    wpAny (model PG w) (ktrTop dp un gd cn cs L a ccd cl outer) (call (.ref f) vs) Q E s := C _ _ _ _ _ _ _ _ _ _ _ _ _ _ _ _ _ _ B F X N T hk hP hdp hun ret
theorem news_pick {h₀ h : Heap} {L : Addr} {l l' : List (Addr × Obj)} (N : News h₀ L h l') (hs : ∀ p ∈ l, p ∈ l') : News h₀ L h l := fun p hp => N p (hs p hp)
theorem one_gt {a : Addr} {o : Obj} {news : List (Addr × Obj)} (h : ∀ q ∈ news, q.1 < a) : ∀ p ∈ [(a, o)], ∀ q ∈ news, q.1 < p.1 := fun p hp q hq => by
  rw [List.mem_singleton.mp hp]; exact h q hq
theorem nil_gt {news : List (Addr × Obj)} : ∀ p ∈ ([] : List (Addr × Obj)), ∀ q ∈ news, q.1 < p.1 := fun _ hp => nomatch hp
theorem all_gt {a : Addr} : ∀ {news : List (Addr × Obj)}, AllLt a news → ∀ q ∈ news, q.1 < a := fun h => ktn_ltOf h
theorem sub_tail {x : Addr × Obj} {l l' : List (Addr × Obj)} (h : ∀ p ∈ l, p ∈ l') : ∀ p ∈ l, p ∈ x :: l' := fun p hp => .tail _ (h p hp)
theorem sub_refl {l : List (Addr × Obj)} : ∀ p ∈ l, p ∈ l := fun _ h => h
theorem sub_app {t l l' : List (Addr × Obj)} (h : ∀ p ∈ l, p ∈ l') : ∀ p ∈ l, p ∈ t ++ l' := fun p hp => List.mem_append.mpr (.inr (h p hp))
section
variable {h₀ : Heap} {L : Addr} {m : Str → Option Value} {news : List (Addr × Obj)} {s : Shared} {Q : Value → Shared → Prop} {Post : List (Addr × Obj) → Value → Prop}
theorem end1 (hret : ∀ r tl h' tk', Fr h₀ L h' m → News h₀ L h' (tl ++ news) → (∀ p ∈ tl, ∀ q ∈ news, q.1 < p.1) → Post tl r → Q r { s with heap := h', toks := tk' })
    {h' : Heap} {tk' : Nat} {a : Addr} {o : Obj} {news' : List (Addr × Obj)} (F : Fr h₀ L h' m) (N : News h₀ L h' news') (hm : (a, o) ∈ news') (hs : ∀ p ∈ news, p ∈ news') (lt : ∀ q ∈ news, q.1 < a) (hp : Post [(a, o)] (.ref a)) :
    Q (.ref a) { s with heap := h', toks := tk' } :=
  hret _ [(a, o)] _ _ F (fun p hp => by
    rcases List.mem_cons.mp hp with rfl | hp
    · exact N _ hm
    · exact N _ (hs _ hp)) (one_gt lt) hp
theorem end0 (hret : ∀ r tl h' tk', Fr h₀ L h' m → News h₀ L h' (tl ++ news) → (∀ p ∈ tl, ∀ q ∈ news, q.1 < p.1) → Post tl r → Q r { s with heap := h', toks := tk' })
    {h' : Heap} {tk' : Nat} {v : Value} {news' : List (Addr × Obj)} (F : Fr h₀ L h' m) (N : News h₀ L h' news') (hs : ∀ p ∈ news, p ∈ news') (hp : Post [] v) :
    Q v { s with heap := h', toks := tk' } := hret _ [] _ _ F (fun p hp => N _ (hs _ hp)) nil_gt hp
end
section
variable {prog : Program} {w : World} {A : Around} {E : Value → Shared → Prop} {s : Shared} {h₀ : Heap} {L : Addr} {m : Str → Option Value}
theorem my_extend {D b : Addr} {vs us : List Value} {n n2 : Nat} {ns ms : List Int} {news : List (Addr × Obj)} {news' : Nat → List (Addr × Obj)} {Q : Value → Shared → Prop}
    (F : Fr h₀ L s.heap m) (N : News h₀ L s.heap news) (U : ∀ k, Upd D (listOf vs.toArray n) (listOf (vs ++ us).toArray k) news (news' k)) (hb : (b, listOf us.toArray n2) ∈ news) (hi : IntsAre vs ns) (hj : IntsAre us ms)
    (hz : ns.length + ms.length ≤ sizeLine)
    (h : ∀ k h', Fr h₀ L h' m → News h₀ L h' (news' k) → IntsAre (vs ++ us) (ns ++ ms) → Q .none { s with heap := h' }) :
    wpAny (model prog w) A (call (.builtin "list.extend") [.ref D, .ref b]) Q E s := by
  obtain ⟨pre, post, e1, e2, a, c⟩ := (U 0).split
  have all : ∀ k, news' k = pre ++ (D, listOf (vs ++ us).toArray k) :: post := by
    intro k
    obtain ⟨pre', post', e1', e2', a', c'⟩ := (U k).split
    have : pre' = pre ∧ post' = post := by
      have e := e1'.symm.trans e1
      clear e1 e2 e1' e2'
      induction pre' generalizing pre with
      | nil =>
        cases pre with
        | nil => simp at e; exact ⟨rfl, e⟩
        | cons q r => simp at e; exact absurd (by rw [← e.1]) (a q (.head _))
      | cons q' r' ih =>
        cases pre with
        | nil => simp at e; exact absurd (by rw [e.1]) (a' q' (.head _))
        | cons q r =>
          simp at e
          have := ih r (fun p hp => a p (.tail _ hp)) (fun p hp => a' p (.tail _ hp)) (by simpa using e.2)
          exact ⟨by rw [e.1, this.1], this.2⟩
    rw [e2', this.1, this.2]
  rw [e1] at N hb
  refine extend_in (ys := vs) F N a c (N _ hb).1 (fun h' n' F' N' => h n' h' F' (by rw [all]; simpa using N') (hi.append hj)) ?_
  rw [List.size_toArray, hi.length, hj.length]
  exact hz
end
end
local macro_rules | `(tactic| walk_at "lt") => `(tactic| first | assumption | exact all_gt ((by assumption)) | exact all_gt ((And.right (by assumption))) | exact all_gt ((And.right (And.right (by assumption)))) | exact all_gt ((And.right (And.right (And.right (by assumption))))) | exact all_gt ((And.right (And.right (And.right (And.right (by assumption)))))) | exact all_gt ((And.right (And.right (And.right (And.right (And.right (by assumption))))))) | exact all_gt ((And.right (And.right (And.right (And.right (And.right (And.right (by assumption)))))))) | exact all_gt ((And.right (And.right (And.right (And.right (And.right (And.right (And.right (by assumption))))))))) | exact all_gt ((And.right (And.right (And.right (And.right (And.right (And.right (And.right (And.right (by assumption)))))))))))
section
open PySem PySem.W PySem.Spec PySem.Calls PyProof.Rows
end
local macro_rules | `(tactic| walk_at "sub") => `(tactic| repeat (first | (with_reducible exact sub_refl) | (with_reducible refine sub_tail ?_) | (with_reducible refine sub_app ?_)))
section
open PySem PySem.W PySem.Spec PySem.Calls PyProof.Rows
/-- the octets of a number, the highest first -/
noncomputable def octF (n : Int) : List Int := if n ≤ 63 then [n % 64] else if n / 64 ≤ 63 then [64 + n / 64 % 64, n % 64] else [64 + n / 64 / 64 % 64, 64 + n / 64 % 64, n % 64]
theorem fd64 (n : Int) : n.fdiv 64 = n / 64 := Int.fdiv_eq_ediv_of_nonneg n (by decide)
theorem fm64 (n : Int) : n.fmod 64 = n % 64 := Int.fmod_eq_emod_of_nonneg n (by decide)

end
section
open PySem PySem.W PySem.Spec PySem.Calls PyProof.Rows
section
variable {prog : Program} {w : World} {A : Around} {E : Value → Shared → Prop} {s : Shared} {env : Env} {h₀ : Heap} {x : Str} {px : Pos} {body orelse : List Stmt} {Q : Flow → Shared → Prop}
/-- a for that is left by break (or return) on every way: its else part is not reached -/
theorem for_left {I : Addr} {fp wr : List Addr} {n : Nat} {P : Nat → Value → Prop} {St : Nat → Heap → Prop} {m₀ : Str → Option Value} {news : List (Addr × Obj)} (J : Nat → (Str → Option Value) → List (Addr × Obj) → Prop)
    (W : Walks prog w A I fp wr n P St) (hLf : env.locals ∉ fp) (hwr : ∀ b ∈ wr, h₀.get? b = none) (hfp : ∀ q ∈ news, q.1 ∉ fp) (hst : St 0 s.heap) (F : Fr h₀ env.locals s.heap m₀) (N : News h₀ env.locals s.heap news) (hj : J 0 m₀ news)
    (hx : env.kindOf x = some .local) (hp : (env.scope.kind == .class || (env.scope.kind == .module && env.locals != env.globals)) = false) (hE : PassesOwn (model prog w) A env E)
    (turn : ∀ i v m₁ nx h tk own, i < n → P i v → nx.map (·.1) = news.map (·.1) → OwnOff own (news.map (·.1)) → J i m₁ nx → Fr h₀ env.locals h (fun y => if y = x then some v else m₁ y) → News h₀ env.locals h (nx ++ own) →
      wpAny (model prog w) A (execs body env) (InvPostN h₀ env.locals (J (i + 1)) own (news.map (·.1)) { s with heap := h, toks := tk } Q) E { s with heap := h, toks := tk })
    (never : ∀ m₁ nx, J n m₁ nx → False) :
    codeAny (model prog w) A (.forLoop (.Name x px) (.ref I) body orelse env) (fun r s' => match r with | .ok f => Q f s' | .error e => cameBackBy (model prog w) A env E e s') s := by
  have apart : ∀ nx : List (Addr × Obj), nx.map (·.1) = news.map (·.1) → ∀ p ∈ nx, p.1 ∉ fp := by
    intro nx e p hp
    have h1 : p.1 ∈ nx.map (·.1) := List.mem_map.mpr ⟨p, hp, rfl⟩
    rw [e] at h1
    obtain ⟨q, hq, e2⟩ := List.mem_map.mp h1
    rw [← e2]
    exact hfp q hq
  refine codeAny_forLoop (fun k s' => ∃ h tk m₁ nx i, s' = { s with heap := h, toks := tk } ∧ St i h ∧ Fr h₀ env.locals h m₁ ∧ News h₀ env.locals h nx ∧ nx.map (·.1) = news.map (·.1) ∧ J i m₁ nx ∧ i ≤ n ∧ k = n + 1 - i) ?_ (n + 1)
    ⟨s.heap, s.toks, m₀, news, 0, rfl, hst, F, N, rfl, hj, Nat.zero_le _, rfl⟩
  rintro k s' ⟨h, tk, m₁, nx, i, rfl, st, F1, N1, ea, hJ, hi, rfl⟩
  have hlt : i < n := by
    rcases Nat.lt_or_ge i n with q | q
    · exact q
    · exact absurd (Nat.le_antisymm hi q ▸ hJ) (never _ _)
  refine W.item i _ _ _ hlt st fun v h1 tk1 hP st1 kp => ?_
  have F2 : Fr h₀ env.locals h1 m₁ := ⟨F1.ns.at' fun o e => kp _ o (fun q => hLf (W.sub _ q)) e, fun b o e => kp b o (fun q => by rw [hwr b q] at e; cases e) (F1.keep b o e), F1.above⟩
  have N2 : News h₀ env.locals h1 nx := fun p hp => ⟨kp _ _ (fun q => apart nx ea p hp (W.sub _ q)) (N1 p hp).1, (N1 p hp).2⟩
  refine wpAny_assign_Name (wpAny_storeName_local hx F2.ns (fun h2 hn2 hs2 => ?_) hp)
  have F3 := F2.set hn2 hs2
  have N3 := N2.set hs2
  have No : News h₀ env.locals h2 (ownOf h₀ fp h2) := news_ownOf hLf
  have off : OwnOff (ownOf h₀ fp h2) (news.map (·.1)) := by
    intro p hp b hb e
    obtain ⟨q, hq, rfl⟩ := List.mem_map.mp hb
    exact hfp q hq (e ▸ ownOf_sub p hp)
  have N4 : News h₀ env.locals h2 (nx ++ ownOf h₀ fp h2) := fun p hp => (List.mem_append.mp hp).elim (N3 p) (No p)
  refine wpAny_passesOwn hE (wpAny_mono (turn i v m₁ nx h2 _ (ownOf h₀ fp h2) hlt hP ea off hJ F3 N4) (fun f s3 q => ?_) fun _ _ e => e)
  have fin : InvEndN h₀ env.locals (J (i + 1)) (ownOf h₀ fp h2) (news.map (·.1)) { s with heap := h2, toks := tk1 + 1 } s3 →
      ∃ m, m < n + 1 - i ∧ ∃ h tk m₁ nx i, s3 = { s with heap := h, toks := tk } ∧ St i h ∧ Fr h₀ env.locals h m₁ ∧ News h₀ env.locals h nx ∧ nx.map (·.1) = news.map (·.1) ∧ J i m₁ nx ∧ i ≤ n ∧ m = n + 1 - i := by
    rintro ⟨h', tk', m', all, nx', e, F', N', hn, ho, ha, hm⟩
    refine ⟨n + 1 - (i + 1), by omega, h', tk', m', nx', i + 1, e, ?_, F', fun p hp => N' p (hn p hp), ha, hm, hlt, rfl⟩
    refine W.frame _ _ _ st1 fun b hb o e1 => ?_
    have e2 : h2.get? b = some o := (hs2.2 b fun q => hLf (q ▸ hb)).trans e1
    cases hz : h₀.get? b with
    | some o₀ =>
      have : o₀ = o := by have := F3.keep b o₀ hz; rw [e2] at this; exact (Option.some.inj this).symm
      exact this ▸ F'.keep b o₀ hz
    | none => exact (N' _ (ho _ (mem_ownOf hb hz e2))).1
  cases f with
  | ret v => exact q
  | brk => exact q
  | cont => exact fin q
  | next => exact fin q
end
section
variable {prog : Program} {w : World} {A : Around} {E : Value → Shared → Prop} {s : Shared} {env : Env} {h₀ : Heap} {x : Str} {px : Pos} {body orelse : List Stmt} {Q : Flow → Shared → Prop}
/-- a for over a range that is left on every way, by a word over its state -/
theorem kst_range_left {σ : Type} {r : Addr} {a₀ b₀ : Int} {t₀ u₀ v₀ : Tok} {n : Nat} {m₀ : Str → Option Value} (Led : σ → List (Addr × Obj)) (ps : σ → List (Str × Value)) (Facts : σ → Prop) (stored : List Str) (P : List Int → σ → Prop) (c₀ : σ)
    (hh : A.handled = none) (hr : IsRange s.heap r a₀ b₀ 1 t₀ u₀ v₀) (hsmall : Builtin.Range.small a₀ b₀ 1 = true) (hn : Builtin.Range.rangeSize a₀ b₀ 1 = (n : Int)) (F : Fr h₀ env.locals s.heap m₀) (N : News h₀ env.locals s.heap (Led c₀)) (hf : Facts c₀) (hk : ∀ p ∈ ps c₀, m₀ p.1 = some p.2) (hp : P [] c₀)
    (hx : env.kindOf x = some .local) (hpl : (env.scope.kind == .class || (env.scope.kind == .module && env.locals != env.globals)) = false) (hE : PassesOwn (model prog w) A env E)
    (turn : ∀ (c : σ) (pre : List Int) (k : Int) t (u : Str → Option Value) h tk own, k = a₀ + (pre.length : Int) → pre.length < n → OwnOff own ((Led c₀).map (·.1)) → Facts c → P pre c →
      Fr h₀ env.locals h (fun y => if y = x then some (.int k t) else kstB (fun z => if stored.contains z then u z else m₀ z) (ps c) y) → News h₀ env.locals h (Led c ++ own) →
      wpAny (model prog w) A (execs body env) (InvPostN h₀ env.locals (KstS Led ps Facts x stored m₀ P (pre ++ [k])) own ((Led c₀).map (·.1)) { s with heap := h, toks := tk } Q) E { s with heap := h, toks := tk })
    (never : ∀ c : σ, Facts c → P (rangeKs a₀ n) c → False) :
    wpAny (model prog w) A (pyIter (.ref r)) (fun it s₂ => codeAny (model prog w) A (.forLoop (.Name x px) it body orelse env) (fun r s' => match r with | .ok f => Q f s' | .error e => cameBackBy (model prog w) A env E e s') s₂) E s := by
  refine wpAny_pyIter_range hr hsmall ?_
  have W : Walks prog w A s.heap.objs.size [s.heap.objs.size] [s.heap.objs.size] n (fun i v => i < n ∧ ∃ t, v = .int (a₀ + i * 1) t)
      (fun i h => IsRangeIter h s.heap.objs.size (a₀ + (i : Nat) * 1) ((n : Int) - (i : Nat)) 1) := (Walks.range hh _ a₀ 1 n).bound
  refine for_left (fun i m nx => KstS Led ps Facts x stored m₀ P ((rangeKs a₀ n).take i) m nx) W ?_ ?_ ?_ (by show IsRangeIter _ _ _ _ _; rw [hn]; simpa using Heap.get?_push_size _ rfl) (F.push _) (fun p hp => ⟨Heap.get?_push_of_some _ (N p hp).1, (N p hp).2⟩) ⟨c₀, rfl, hf, hk, fun _ _ _ _ => rfl, by simpa using hp⟩ hx hpl hE ?_ ?_
  · intro hm
    exact absurd F.ns.lt ((List.mem_singleton.mp hm) ▸ Nat.lt_irrefl _)
  · intro b hb
    rw [List.mem_singleton.mp hb]
    exact next_is_new F
  · intro p hp hI
    exact absurd (Heap.lt_size (N p hp).1) ((List.mem_singleton.mp hI) ▸ Nat.lt_irrefl _)
  · rintro i v m₁ nx h tk own hi ⟨_, t, rfl⟩ _ hoff ⟨c, rfl, hf', h1, h2, hp'⟩ F₁ N₁
    have e1 : a₀ + (i : Int) * 1 = a₀ + (i : Int) := by omega
    rw [e1] at F₁
    have hk' : (rangeKs a₀ n)[i]? = some (a₀ + (i : Int)) := by simp [rangeKs, hi]
    have hs : (rangeKs a₀ n).take (i + 1) = (rangeKs a₀ n).take i ++ [a₀ + (i : Int)] := by simp [List.take_add_one, hk']
    have hlen : ((rangeKs a₀ n).take i).length = i := by rw [List.length_take, rangeKs_length]; omega
    rw [hs]
    exact turn c _ _ t m₁ h tk own (by rw [hlen]) (by rw [hlen]; exact hi) hoff hf' hp' (kst_fr h1 h2 F₁) N₁
  · rintro m₁ nx ⟨c, rfl, hf', h1, h2, hp'⟩
    have hl : (rangeKs a₀ n).take n = rangeKs a₀ n := List.take_of_length_le (Nat.le_of_eq (rangeKs_length _ _))
    rw [hl] at hp'
    exact never c hf' hp'
end

end
section
open PySem PySem.W PySem.Spec PySem.Calls PyProof.Rows
noncomputable abbrev itObj (l : Addr) (i : Nat) : Obj := { cls := .type "list_iterator", data := .fields #[.ref l, .int i 0] }
noncomputable abbrev itEnd (i : Nat) : Obj := { cls := .type "list_iterator", data := .fields #[.none, .int i 0] }
section
variable {prog : Program} {w : World} {A : Around} {E : Value → Shared → Prop} {s : Shared} {h₀ : Heap} {L l it : Addr} {m : Str → Option Value} {news news' : List (Addr × Obj)} {vs : List Value} {n i : Nat} {x : Value}
theorem my_iter {Q : Value → Shared → Prop} (F : Fr h₀ L s.heap m) (N : News h₀ L s.heap news) (hl : (l, listOf vs.toArray n) ∈ news)
    (h : ∀ I h', Fr h₀ L h' m → News h₀ L h' ((I, itObj l 0) :: news) → (∀ p ∈ news, p.1 < I) → Q (.ref I) { s with heap := h' }) :
    wpAny (model prog w) A (call (.builtin "iter") [.ref l]) Q E s := by
  refine call_function_entry (by decide +kernel) (by decide +kernel) kdk_entry_iter (kdk_args_iter _) ?_
  unfold Builtin.«iter»
  refine wpAny_bind (m := someArgs "iter" 1 2 _) (wpAny_of_eq (a := [Value.ref l]) (by first | rfl | kernel_rfl!) ?_)
  show wpAny _ _ (pyIter (.ref l) >>= _) _ _ _
  refine wpAny_bind (wpAny_pyIter_list ⟨_, (N _ hl).1, rfl, n, rfl⟩ ?_)
  exact wpAny_pure ⟨_, rfl, h _ _ (F.push _) (News.push F N _ rfl) (fun q hq => Heap.lt_size (N q hq).1)⟩
theorem upd_news {o o' : Obj} {h h' : Heap} (N : News h₀ L h news) (U : Upd it o o' news news') (hs : Heap.SameBut it h h') (ho : h'.get? it = some o') : News h₀ L h' news' := by
  obtain ⟨pre, post, rfl, rfl, a, c⟩ := U.split
  exact news_set N a c hs ho
theorem upd_mem {o o' : Obj} (U : Upd it o o' news news') : (it, o) ∈ news := by
  obtain ⟨pre, post, rfl, rfl, a, c⟩ := U.split
  exact List.mem_append_right _ (.head _)
theorem my_next {Q : Value → Shared → Prop} (F : Fr h₀ L s.heap m) (N : News h₀ L s.heap news) (U : Upd it (itObj l i) (itObj l (i + 1)) news news') (hl : (l, listOf vs.toArray n) ∈ news) (hx : vs[i]? = some x)
    (h : ∀ h', Fr h₀ L h' m → News h₀ L h' news' → Q x { s with heap := h' }) :
    wpAny (model prog w) A (call (.builtin "next") [.ref it]) Q E s := by
  have hm := N _ (upd_mem U)
  have hit : s.heap.IsListIter it l i := ⟨_, hm.1, rfl, rfl⟩
  have hol := (N _ hl).1
  refine call_function_entry (by decide +kernel) (by decide +kernel) kdk_entry_next (kdk_args_next _) ?_
  unfold Builtin.«next»
  refine wpAny_bind (m := someArgs "next" 1 2 _) (wpAny_of_eq (a := [Value.ref it]) (by first | rfl | kernel_rfl!) ?_)
  dsimp only
  refine wpAny_bind (wpAny_specialOf (name := Str.ofString "__next__") hit.typeIs slot_listiter_next.lookup ?_)
  refine wpAny_ite_split (fun hab => absurd hab (by decide)) (fun _ => ?_)
  refine wpAny_bind (wpAny_callSpecial?_slot (name := Str.ofString "__next__") hit.typeIs slot_listiter_next
    (wpAny_call_entry slot_listiter_next hit.typeIs entry_listiter_next ?_ (args_listiter_next _)))
  show wpAny _ _ (field (.ref it) 0 >>= _) _ _ s
  refine wpAny_bind (wpAny_field hm.1 rfl (x := .ref l) rfl ?_)
  show wpAny _ _ (if (Value.ref l == Value.none) = true then _ else _) _ _ s
  rw [if_neg (show ¬ ((Value.ref l == Value.none) = true) from Bool.false_ne_true)]
  show wpAny _ _ (field (.ref it) 1 >>= _) _ _ s
  refine wpAny_bind (wpAny_field hm.1 rfl (x := .int i 0) rfl ?_)
  show wpAny _ _ (seqItems? (.ref l) >>= _) _ _ s
  refine wpAny_bind (wpAny_seqItems hol rfl ?_)
  have hx' : vs.toArray[(i : Int).toNat]? = some x := by simpa using hx
  simp only [hx']
  refine wpAny_bind (wpAny_setField hm.1 rfl (by simp) (wpAny_pure ⟨x, rfl, wpAny_pure ⟨_, rfl, ?_⟩⟩))
  refine h _ (F.change (Heap.SameBut.update ..) hm.2.1 hm.2.2) (upd_news N U (Heap.SameBut.update ..) ?_)
  exact Heap.get?_update_self _ hm.1 rfl
theorem my_next_end {Q : Value → Shared → Prop} (hh : A.handled = none) (F : Fr h₀ L s.heap m) (N : News h₀ L s.heap news) (U : Upd it (itObj l i) (itEnd i) news news') (hl : (l, listOf vs.toArray n) ∈ news) (hx : vs.length ≤ i)
    (h : ∀ h₂ h' e, Fr h₀ L h₂ m → News h₀ L h₂ news' → Heap.NewExc h₂ h' e "StopIteration" → E (.ref e) { s with heap := h' }) :
    wpAny (model prog w) A (call (.builtin "next") [.ref it]) Q E s := by
  have hm := N _ (upd_mem U)
  have hit : s.heap.IsListIter it l i := ⟨_, hm.1, rfl, rfl⟩
  have hol := (N _ hl).1
  refine call_function_entry (by decide +kernel) (by decide +kernel) kdk_entry_next (kdk_args_next _) ?_
  unfold Builtin.«next»
  refine wpAny_bind (m := someArgs "next" 1 2 _) (wpAny_of_eq (a := [Value.ref it]) (by first | rfl | kernel_rfl!) ?_)
  dsimp only
  refine wpAny_bind (wpAny_specialOf (name := Str.ofString "__next__") hit.typeIs slot_listiter_next.lookup ?_)
  refine wpAny_ite_split (fun hab => absurd hab (by decide)) (fun _ => ?_)
  refine wpAny_bind (wpAny_callSpecial?_slot (name := Str.ofString "__next__") hit.typeIs slot_listiter_next
    (wpAny_call_entry slot_listiter_next hit.typeIs entry_listiter_next ?_ (args_listiter_next _)))
  show wpAny _ _ (field (.ref it) 0 >>= _) _ _ s
  refine wpAny_bind (wpAny_field hm.1 rfl (x := .ref l) rfl ?_)
  show wpAny _ _ (if (Value.ref l == Value.none) = true then _ else _) _ _ s
  rw [if_neg (show ¬ ((Value.ref l == Value.none) = true) from Bool.false_ne_true)]
  show wpAny _ _ (field (.ref it) 1 >>= _) _ _ s
  refine wpAny_bind (wpAny_field hm.1 rfl (x := .int i 0) rfl ?_)
  show wpAny _ _ (seqItems? (.ref l) >>= _) _ _ s
  refine wpAny_bind (wpAny_seqItems hol rfl ?_)
  have hx' : vs.toArray[(i : Int).toNat]? = none := by simpa using hx
  simp only [hx']
  refine wpAny_bind (wpAny_rule (wpAny_bind (wpAny_setField hm.1 rfl (by simp) ?_)))
  show wpAny _ _ (newExc (.type "StopIteration") [] >>= _) _ _ _
  refine wpAny_bind ?_
  simp only [newExc, newTuple]
  refine wpAny_bind (wpAny_newObj_type ?_ (by size_fits))
  refine wpAny_bind (m := firstArgMember _ _) (wpAny_of_eq (a := Value.none) (by first | rfl | (simp only [firstArgMember]; rfl)) ?_)
  refine wpAny_newObj_type ?_ (by size_fits)
  simp only [raiseNew]
  refine wpAny_bind (wpAny_handled ?_)
  first | rw [show A.in1.in1.handled = none from hh] | rw [show A.in1.handled = none from hh] | rw [hh]
  refine wpAny_bind (wpAny_pure (wpAny_throw ?_))
  refine h (s.heap.update it (Obj.mapFields (·.setIfInBounds 0 .none))) _ _ (F.change (Heap.SameBut.update ..) hm.2.1 hm.2.2) (upd_news N U (Heap.SameBut.update ..) (Heap.get?_update_self _ hm.1 rfl)) ⟨fun b o e => Heap.get?_push_of_some _ (Heap.get?_push_of_some _ e), ?_, ⟨_, _, Heap.get?_push_size _ rfl, rfl, rfl⟩⟩
  cases q : (s.heap.update it (Obj.mapFields (·.setIfInBounds 0 .none))).get? _ with
  | none => rfl
  | some o =>
    have z : ((s.heap.update it (Obj.mapFields (·.setIfInBounds 0 .none))).push _).objs.size < (s.heap.update it (Obj.mapFields (·.setIfInBounds 0 .none))).objs.size := Heap.lt_size q
    rw [Heap.size_push] at z
    exact absurd z (Nat.not_lt.mpr (Nat.le_succ _))
/-- into a def that catches within, called by the outermost frame -/
theorem code_S0 {K : Frag} {A₀ : Around} {base : Heap} {p : Program} {loose : List Str} {mean : ExcName → Option Value} {mg mb : Str → Option Value} {env : Env} {R : Result → Shared → Prop} {name qual : Str} {params : Arguments} {body : List Stmt} {scope : Scope} {dV kV doc pm cdv ct oc : Value} {an od : Option Addr} {osl : Array (Option Value)} {f : Addr} {args : Args} {binds : List (Str × Value)}
    (B : Below A₀ base [] h₀) (F : Fr h₀ L s.heap m) (X₀ : K.In h₀) (N : News h₀ L s.heap news) (T : Top p loose mean mg mb h₀) (hA : A.frames = some [env]) (hf : env.frame = some L) (hke : env.scope.kind = .function)
    (ho : K.lookup f = some ⟨oc, od, .func (fnOf name qual params body scope dV kV doc pm an cdv ct), osl⟩) (hcd : codeIn K cdv qual = true) (hroom : A.depth < recursionLimit)
    (hbind : BindsTo s (fnOf name qual params body scope dV kV doc pm an cdv ct) args binds) (hloc : ∀ y ∈ binds, scope.names.lookup y.1 = some .local)
    (h : ∀ g L' h₁, Fr h₀ L g m → Fr g L' h₁ (fun y => binds.reverse.lookup y) → News g L' h₁ news → Below A base [env] g → K.In g → Top p loose mean mg mb g → KtsDicts ([env].filterMap (·.frame)) g →
      wpAny (model prog w) (A.deeper (envOf qual scope L' f cdv)) (execs body (envOf qual scope L' f cdv))
        (fun fl s' => LeaveS0 ([env].filterMap (·.frame)) h₀ L m g R (match fl with | .ret v => v | _ => .none) s')
        (fun e s' => wpAny (model prog w) (A.deeper (envOf qual scope L' f cdv)) (leaving (envOf qual scope L' f cdv) e) (fun _ s'' => R (.error e) s'') (fun e' s'' => R (.error e') s'') s')
        { s with heap := h₁, toks := s.toks + binds.length })
    (hco : scope.isCoroutine = false) (hgen : scope.isGenerator = false) (hk : scope.kind = .function)
    (hcell : ∀ x ∈ scope.names, x.2 ≠ .cell) : codeAny (model prog w) A (.call (.ref f) args) R s := by
  have X := X₀.keeps F.keep
  obtain ⟨FG, BG, st, _⟩ := groundX (R := R) B F N hA hf hke
  obtain ⟨oL, es, ep, hLg, hLd, hLk, hLf⟩ := id FG.ns
  have efs : [env].filterMap (·.frame) = [L] := by simp [hf]
  refine codeAny_call_def (fd := fnOf name qual params body scope dV kV doc pm an cdv ct) (body := body) (binds := binds) hroom (X _ _ ho) rfl (T.nolimit.keeps F.keep) (codeRec_of X hcd) rfl hbind hcell hloc (fun h₁ hns hk₁ => ?_) hco hgen hk
  refine wpAny_mono (h _ s.heap.objs.size h₁ FG ⟨hns, fun b o e => hk₁ b o (of_hideAll _ e), Nat.le_of_eq (hideAll_size _ _)⟩
    (fun p hp => ⟨hk₁ _ _ (N p hp).1, Nat.ne_of_lt (Heap.lt_size (N p hp).1), hideAll_none _ (List.mem_map_of_mem hp)⟩) BG (X₀.keeps st) (T.keeps st) (fun b hb => by
      rw [efs] at hb
      rw [List.mem_singleton.mp hb]
      exact ⟨oL, es, ep, hLg, hLd⟩)) (fun fl s' hl => ?_) fun _ _ y => y
  obtain ⟨g', L', m', news', T', F', N', k⟩ := hl
  have nL₀ : h₀.get? L = none := kts_self F
  obtain ⟨sl, hs⟩ := T'.up hLg
  refine k ⟨⟨_, es, ep, F'.keep _ _ hs, hLd, hLk, hLf⟩, fun b o e => F'.keep b o (T'.other b o (st b o e) (fun q => ?_)), F.above⟩ fun p hp => ⟨(N' p hp).1, fun q => ?_, ?_⟩
  · rw [efs] at q
    rw [List.mem_singleton.mp q, nL₀] at e
    cases e
  · have := (N' p hp).2.2
    rw [q, hs] at this
    cases this
  · cases q : h₀.get? p.1 with
    | none => rfl
    | some o =>
      obtain ⟨sl', hs'⟩ := T'.up (st _ _ q)
      have := (N' p hp).2.2
      rw [hs'] at this
      cases this
end

end
section
open PySem PySem.W PySem.Spec PySem.Calls PyProof.Rows
theorem ite_yes {b : Bool} {P Q : Prop} (hb : b = true) (h : P) : if b = true then P else Q := by rw [if_pos hb]; exact h
theorem ite_no {b : Bool} {P Q : Prop} (hb : b = false) (h : Q) : if b = true then P else Q := by rw [if_neg (by rw [hb]; exact Bool.false_ne_true)]; exact h
/-- a contract of a def that is called by the outermost frame alone -/
noncomputable def Spec0 (w : World) (mean : ExcName → Option Value) (mg mb : Str → Option Value) (f : Addr) (size : Nat) (vs : List Value) (Pre : List (Addr × Obj) → Prop) (Post : List (Addr × Obj) → Value → Prop) : Prop :=
  ∀ (dp un : Nat) (gd : Option (List Code)) (cn : Str) (cs : Scope) (a : Addr) (ccd : Value) (cl : List (Str × Addr)) (A₀ : Around) (h₀ : Heap) (L : Addr) (m : Str → Option Value) (news : List (Addr × Obj)) (s : Shared)
    (Q E : Value → Shared → Prop),
    Below A₀ h₀ [] h₀ → Fr h₀ L s.heap m → (hd.heap_39 w.params).In h₀ → News h₀ L s.heap news → Top view LZ mean mg mb h₀ → cs.kind = .function → Pre news → dp + size < recursionLimit → un + 8 * size < cLine →
    (∀ r tl h' tk', Fr h₀ L h' m → News h₀ L h' (tl ++ news) → (∀ p ∈ tl, ∀ q ∈ news, q.1 < p.1) → Post tl r → Q r { s with heap := h', toks := tk' }) →
    wpAny (model PG w) (ktrTop dp un gd cn cs L a ccd cl []) (call (.ref f) vs) Q E s
noncomputable def DS (w : World) (o : Obj) (c : List (Str × Int)) : Prop := ∃ kvs, o.IsDictOf (PySem.strKind PG w) kvs ∧ PyProof.V.FlatPairs PyData.str kvs (kdpD c)
section
variable {prog : Program} {w : World} {A : Around} {E : Value → Shared → Prop} {s : Shared} {h₀ : Heap} {L D : Addr} {m : Str → Option Value} {news news' : List (Addr × Obj)} {vs : List Value} {n : Nat} {x y : Value} {t : Tok}
theorem my_pop {Q : Value → Shared → Prop} (F : Fr h₀ L s.heap m) (N : News h₀ L s.heap news) (U : Upd D (listOf (vs ++ [x]).toArray n) (listOf vs.toArray (n + 1)) news news') (hz : vs.length + 1 ≤ sizeLine)
    (h : ∀ h', Fr h₀ L h' m → News h₀ L h' news' → Q x { s with heap := h' }) : wpAny (model prog w) A (call (.builtin "list.pop") [.ref D]) Q E s :=
  kl_pop F N (by simpa using kpa_last x vs) U (by simpa using hz) h
theorem my_last {Q : Value → Shared → Prop} (N : News h₀ L s.heap news) (hm : (D, listOf (vs ++ [x]).toArray n) ∈ news) (h : Q x s) : wpAny (model prog w) A (getItem (.ref D) (.int (-1) t)) Q E s :=
  wpAny_getItem_list_neg (items := (vs ++ [x]).toArray) ⟨_, (N _ hm).1, rfl, n, rfl⟩ (by decide) (by simp; omega) (by decide) (by
    have e : (-1 + (((vs ++ [x]).toArray.size : Nat) : Int)).toNat = vs.length := by simp; omega
    rw [e]; simp) h
theorem my_setLast {Q : Unit → Shared → Prop} (F : Fr h₀ L s.heap m) (N : News h₀ L s.heap news) (U : Upd D (listOf (vs ++ [x]).toArray n) (listOf (vs ++ [y]).toArray n) news news')
    (h : ∀ h', Fr h₀ L h' m → News h₀ L h' news' → Q () { s with heap := h' }) : wpAny (model prog w) A (setItem (.ref D) (.int (-1) t) y) Q E s := by
  obtain ⟨pre, post, rfl, rfl, a, c⟩ := U.split
  have z := N (D, listOf (vs ++ [x]).toArray n) (List.mem_append.mpr (.inr (.head _)))
  refine ki_setBack z.1 (by decide) (by simp; omega) (by decide) ?_
  refine h _ (F.change (Heap.SameBut.update ..) z.2.1 z.2.2) (ki_turn _ N a c ?_ ?_)
  · have e : (-1 + (((vs ++ [x]).toArray.size : Nat) : Int)).toNat = vs.length := by simp; omega
    rw [e]
    apply Array.toList_inj.mp
    simp
  · simp
end

end
section
open PySem PySem.W PySem.Spec PySem.Calls PyProof.Rows
/-- one turn of _law_numbers' first loop -/
noncomputable def numStep (R : Int → List Int) (mk : Int) (st : List Int × Int) (o : Int) : List Int × Int :=
  if o < mk ∧ Builtin.bitAnd o st.2 = o then (st.1 ++ R o, st.2 - o) else st
/-- the leaves right within a cluster, of the places pre -/
noncomputable def leavesF (left d : Int) (pre : List Int) : List Int :=
  (pre.filter fun p => decide ((left.fdiv (2 ^ p.toNat)).fmod 2 = 1)).map fun p => 255 - p - 4 * (d.fdiv 7).fmod 60
/-- what _law_numbers gives back; ts: the masks of the tree, the greatest first -/
noncomputable def numsF (ts : List Int) : Nat → Int → Int → List Int
  | 0, _, _ => []
  | f + 1, mk, d =>
    let st := ts.foldl (numStep (fun o => numsF ts f o (d + o)) mk) ([256 + d.fmod 5000], mk)
    st.1 ++ leavesF st.2 d [0, 1, 2, 3] ++ [0]
theorem and_le {a b : Int} (ha : 0 ≤ a) (ha' : a < 16) (hb : 0 ≤ b) (hb' : b < 16) (h : Builtin.bitAnd a b = a) : a ≤ b := by
  have key : ∀ i j : Fin 16, Builtin.bitAnd (i.val : Int) (j.val : Int) = (i.val : Int) → (i.val : Int) ≤ j.val := by decide +kernel
  have := key ⟨a.toNat, by omega⟩ ⟨b.toNat, by omega⟩
  simp only [Int.toNat_of_nonneg ha, Int.toNat_of_nonneg hb] at this
  exact this h
theorem leaves_len {left d : Int} (h0 : 0 ≤ left) (h1 : left < 16) : ((leavesF left d [0, 1, 2, 3]).length : Int) ≤ left ∧ (leavesF left d [0, 1, 2, 3]).length ≤ 4 := by
  have key : ∀ i : Fin 16, ((([0, 1, 2, 3] : List Int).filter fun p => decide (((i.val : Int).fdiv (2 ^ p.toNat)).fmod 2 = 1)).length : Int) ≤ i.val ∧ (([0, 1, 2, 3] : List Int).filter fun p => decide (((i.val : Int).fdiv (2 ^ p.toNat)).fmod 2 = 1)).length ≤ 4 := by decide +kernel
  have := key ⟨left.toNat, by omega⟩
  simp only [Int.toNat_of_nonneg h0] at this
  unfold leavesF
  rw [List.length_map]
  exact this
/-- the first loop's state: how long, how much is left -/
theorem fold_len {R : Int → List Int} {mk : Int} (hm1 : mk < 16) (hm0 : 0 < mk) (a0 : Int) : ∀ (ts : List Int), (∀ x ∈ ts, 0 < x ∧ x < 16) → (∀ x ∈ ts, x < mk → ((R x).length : Int) ≤ 8 * x - 2) → ∀ st : List Int × Int,
    (0 ≤ st.2 ∧ st.2 ≤ mk ∧ ((st.2 = mk ∧ st.1.length = 1) ∨ (0 < st.2 ∧ (st.1.length : Int) ≤ 8 * (mk - st.2) - 1) ∨ (st.2 < mk ∧ (st.1.length : Int) ≤ 8 * (mk - st.2) - 3))) →
    (0 ≤ (ts.foldl (numStep R mk) st).2 ∧ (ts.foldl (numStep R mk) st).2 ≤ mk ∧ (((ts.foldl (numStep R mk) st).2 = mk ∧ (ts.foldl (numStep R mk) st).1.length = 1) ∨ (0 < (ts.foldl (numStep R mk) st).2 ∧ ((ts.foldl (numStep R mk) st).1.length : Int) ≤ 8 * (mk - (ts.foldl (numStep R mk) st).2) - 1) ∨ ((ts.foldl (numStep R mk) st).2 < mk ∧ ((ts.foldl (numStep R mk) st).1.length : Int) ≤ 8 * (mk - (ts.foldl (numStep R mk) st).2) - 3)))
  | [], _, _, st, h => h
  | o :: ts, hx, hR, st, h => by
    rw [List.foldl_cons]
    refine fold_len hm1 hm0 a0 ts (fun x hm => hx x (.tail _ hm)) (fun x hm => hR x (.tail _ hm)) _ ?_
    unfold numStep
    split
    · rename_i c
      have q := hx o (.head _)
      have r := hR o (.head _) c.1
      have le := and_le (by omega) (by omega) h.1 (by omega) c.2
      simp only [List.length_append, Int.natCast_add]
      omega
    · exact h
theorem numsF_len {ts : List Int} (hx : ∀ x ∈ ts, 0 < x ∧ x < 16) : ∀ (f : Nat) (mk d : Int), 0 < mk → mk < 16 → ((numsF ts f mk d).length : Int) ≤ 8 * mk - 2
  | 0, mk, d, h0, _ => by simp only [numsF, List.length_nil]; omega
  | f + 1, mk, d, h0, h1 => by
    have := fold_len (R := fun o => numsF ts f o (d + o)) h1 h0 0 ts hx (fun x hm _ => numsF_len hx f x (d + x) (hx x hm).1 (hx x hm).2) ([256 + d.fmod 5000], mk) ⟨by omega, by omega, .inl ⟨rfl, rfl⟩⟩
    simp only [numsF, List.length_append, List.length_cons, List.length_nil]
    have lv := leaves_len (left := (ts.foldl (numStep (fun o => numsF ts f o (d + o)) mk) ([256 + d.fmod 5000], mk)).2) (d := d) this.1 (by omega)
    omega

end
section
open PySem PySem.W PySem.Spec PySem.Calls PyProof.Rows
set_option maxHeartbeats 0
set_option rowWalk.seconds 0
noncomputable def NumP (ts : List Int) (f : Nat) (mk d : Int) (pre nums : List Int) (left : Int) : Prop :=
  (∀ x ∈ pre, 0 < x ∧ x < 16) ∧ (nums, left) = pre.foldl (numStep (fun o => numsF ts f o (d + o)) mk) ([256 + d.fmod 5000], mk)
section
variable {ts : List Int} {f : Nat} {mk d o left : Int} {pre nums : List Int}
theorem NumP.len (hts : ∀ x ∈ ts, 0 < x ∧ x < 16) (h0 : 0 < mk) (h1 : mk < 16) (h : NumP ts f mk d pre nums left) : nums.length ≤ 200 := by
  have q := fold_len (R := fun o => numsF ts f o (d + o)) h1 h0 0 pre h.1 (fun x hm _ => numsF_len hts f x (d + x) (h.1 x hm).1 (h.1 x hm).2) ([256 + d.fmod 5000], mk) ⟨by omega, by omega, .inl ⟨rfl, rfl⟩⟩
  rw [← h.2] at q
  dsimp only at q
  omega
theorem NumP.start : NumP ts f mk d [] [256 + d.fmod 5000] mk := ⟨(fun _ h => nomatch h), rfl⟩
theorem NumP.put (h : NumP ts f mk d pre nums left) (ho : 0 < o ∧ o < 16) : ∀ x ∈ pre ++ [o], 0 < x ∧ x < 16 := fun x hx => by
  rcases List.mem_append.mp hx with hx | hx
  · exact h.1 x hx
  · rw [List.mem_singleton.mp hx]; exact ho
theorem NumP.take (h : NumP ts f mk d pre nums left) (ho : 0 < o ∧ o < 16) (c1 : o < mk) (c2 : Builtin.bitAnd o left = o) : NumP ts f mk d (pre ++ [o]) (nums ++ numsF ts f o (d + o)) (left - o) :=
  ⟨h.put ho, by rw [List.foldl_append, ← h.2, List.foldl_cons, List.foldl_nil]; unfold numStep; rw [if_pos ⟨c1, c2⟩]⟩
theorem NumP.fin {r xs : List Int} (h : NumP ts f mk d r.reverse nums left) (hp : r.Perm xs) (ho : r.Pairwise (· ≤ ·)) (h1 : ts.Perm xs) (h2 : ts.Pairwise (fun a b => b ≤ a)) : NumP ts f mk d ts nums left := by
  have e : r = ts.reverse := lks_uniq ((hp.trans h1.symm).trans (List.reverse_perm ts).symm) ho (List.pairwise_reverse.mpr h2)
  rw [e, List.reverse_reverse] at h
  exact h
noncomputable def NumQ (ts : List Int) (f : Nat) (mk d : Int) (pre nums : List Int) : Prop := ∃ n0 l0, NumP ts f mk d ts n0 l0 ∧ nums = n0 ++ leavesF l0 d pre
theorem NumQ.start (h : NumP ts f mk d ts nums left) : NumQ ts f mk d [] nums := ⟨nums, left, h, by simp [leavesF]⟩
theorem NumP.same {n l} (h : NumP ts f mk d pre nums left) (h' : NumP ts f mk d pre n l) : n = nums ∧ l = left := by
  have := h.2.trans h'.2.symm
  exact ⟨(congrArg Prod.fst this).symm, (congrArg Prod.snd this).symm⟩
theorem NumQ.put {n0 : List Int} {p : Int} (h : NumQ ts f mk d pre nums) (hA : NumP ts f mk d ts n0 left) (c : (left.fdiv (2 ^ p.toNat)).fmod 2 = 1) : NumQ ts f mk d (pre ++ [p]) (nums ++ [255 - p - 4 * (d.fdiv 7).fmod 60]) := by
  obtain ⟨n1, l1, q, e⟩ := h
  obtain ⟨rfl, rfl⟩ := hA.same q
  exact ⟨n1, l1, q, by rw [e]; simp [leavesF, List.filter_append, c]⟩
theorem NumQ.skip {n0 : List Int} {p : Int} (h : NumQ ts f mk d pre nums) (hA : NumP ts f mk d ts n0 left) (c : ¬ (left.fdiv (2 ^ p.toNat)).fmod 2 = 1) : NumQ ts f mk d (pre ++ [p]) nums := by
  obtain ⟨n1, l1, q, e⟩ := h
  obtain ⟨rfl, rfl⟩ := hA.same q
  exact ⟨n1, l1, q, by rw [e]; simp [leavesF, List.filter_append, c]⟩
theorem NumQ.fin (h : NumQ ts f mk d [0, 1, 2, 3] nums) : nums ++ [0] = numsF ts (f + 1) mk d := by
  obtain ⟨n1, l1, q, e⟩ := h
  rw [e]
  unfold numsF
  rw [← q.2]
theorem NumP.skip (h : NumP ts f mk d pre nums left) (ho : 0 < o ∧ o < 16) (c : ¬ (o < mk ∧ Builtin.bitAnd o left = o)) : NumP ts f mk d (pre ++ [o]) nums left :=
  ⟨h.put ho, by rw [List.foldl_append, ← h.2, List.foldl_cons, List.foldl_nil]; unfold numStep; rw [if_neg c]⟩
end
section
theorem c_num_step (w : World) (mean : ExcName → Option Value) (mg mb : Str → Option Value) (ts : List Int) (hts : ∀ x ∈ ts, 0 < x ∧ x < 16) (f : Nat)
    (l : Addr) (vl : List Value) (xs : List Int) (k : Nat) (hI : IntsAre vl xs) (hx : ∀ x ∈ xs, 0 < x ∧ x < 16) (hlen : xs.length ≤ 8) (h1 : ts.Perm xs) (h2 : ts.Pairwise (fun a b => b ≤ a))
    (IH : ∀ (mk : Int) (t : Tok) (d : Int) (u : Tok), 0 < mk → mk < 16 → mk.toNat < f →
      Spec w mean mg mb 74 f [Value.int mk t, Value.ref l, Value.int d u] (fun news => (l, listOf vl.toArray k) ∈ news) (fun tl r => ∃ a vs k, r = .ref a ∧ tl = [(a, listOf vs.toArray k)] ∧ IntsAre vs (numsF ts f mk d)))
    (mk : Int) (t : Tok) (d : Int) (u : Tok) (hm0 : 0 < mk) (hm2 : mk < 16) (hm1 : mk.toNat < f + 1) :
    Spec w mean mg mb 74 (f + 1) [Value.int mk t, Value.ref l, Value.int d u] (fun news => (l, listOf vl.toArray k) ∈ news) (fun tl r => ∃ a vs k, r = .ref a ∧ tl = [(a, listOf vs.toArray k)] ∧ IntsAre vs (numsF ts (f + 1) mk d)) := by
  w_top off
  k_with_none
  k_with "call builtin:list.extend" => (k_here; (with_reducible show wpAny _ _ (call (Value.builtin _) [Value.ref _, Value.ref _]) _ _ _); k_dflt (refine' my_extend ?zwF ?zwN ?zwU ?zwb ?zwi ?zwj ?zwz ?_; (case zwF => k_asm); (case zwN => k_asm); (case zwb => k_mem); (case zwU => (intro t'; k_upd)); (case zwi => assumption); (case zwj => assumption); (case zwz => (rw [sizeLine_eq]; omega))); intro k' h' F' N' i')
  k_with "call builtin:iter" => (k_here; (with_reducible show wpAny _ _ (call (Value.builtin "iter") [Value.ref _]) _ _ _); k_dflt (refine' my_iter ?zwF ?zwN ?zwm ?_; (case zwF => k_asm); (case zwN => k_asm); (case zwm => k_mem)); intro I' h' F' N' l1; (try k_lt l1))
  k_with "exec For Name Subscript cons nil" => (k_here; (rename Fr _ _ _ _ => lF'); (with_unfolding_all refine' For_invVF lF' ?zwk1 ?zwk2 ?_; (case zwk1 => exact rfl); (case zwk2 => exact rfl); k_whole))
  k_with "exec For Name Call cons nil" => (k_here; (rename Fr _ _ _ _ => lF'); (with_unfolding_all refine' For_invVF lF' ?zwk1 ?zwk2 ?_; (case zwk1 => exact rfl); (case zwk2 => exact rfl); k_whole))
  k_with "call builtin:sorted" => (with_unfolding_all refine' kso_sorted ?zwk1 ?zwk2 ?zwk3 ?zwk4 ?zwk5 ?_; (case zwk1 => k_asm); (case zwk2 => k_asm); (case zwk3 => exact kso_isList (by k_asm) (by k_mem) rfl); (case zwk4 => assumption); (case zwk5 => omega); k_whole; intro D' v' n' c' h' F' N' l1 i' e' p' o' b'; (try k_lt l1))
  have : (Challenge.rw_rs0060_01 = Challenge.rw_rs0060_01 ∧ Mine.hd.heap_39 = Mine.hd.heap_39) := by k_fill; exact ⟨rfl, rfl⟩
  clear this
  intro dp un gd cn cs a ccd cl outer A₀ base h₀ L m news s Q E B F X N T hk hP hdp hun hret
  refine wpAny_call ?_
  k_dflt ktr_enter
  k_with_none
  k_with "call builtin:list.extend" => (k_here; (with_reducible show wpAny _ _ (call (Value.builtin _) [Value.ref _, Value.ref _]) _ _ _); k_dflt (refine' my_extend ?zwF ?zwN ?zwU ?zwb ?zwi ?zwj ?zwz ?_; (case zwF => k_asm); (case zwN => k_asm); (case zwb => k_mem); (case zwU => (intro t'; k_upd)); (case zwi => assumption); (case zwj => assumption); (case zwz => (rw [sizeLine_eq]; omega))); intro k' h' F' N' i')
  k_with "call builtin:iter" => (k_here; (with_reducible show wpAny _ _ (call (Value.builtin "iter") [Value.ref _]) _ _ _); k_dflt (refine' my_iter ?zwF ?zwN ?zwm ?_; (case zwF => k_asm); (case zwN => k_asm); (case zwm => k_mem)); intro I' h' F' N' l1; (try k_lt l1))
  k_with "exec For Name Subscript cons nil" => (k_here; (rename Fr _ _ _ _ => lF'); (with_unfolding_all refine' For_invVF lF' ?zwk1 ?zwk2 ?_; (case zwk1 => exact rfl); (case zwk2 => exact rfl); k_whole))
  k_with "exec For Name Call cons nil" => (k_here; (rename Fr _ _ _ _ => lF'); (with_unfolding_all refine' For_invVF lF' ?zwk1 ?zwk2 ?_; (case zwk1 => exact rfl); (case zwk2 => exact rfl); k_whole))
  k_with "call builtin:sorted" => (with_unfolding_all refine' kso_sorted ?zwk1 ?zwk2 ?zwk3 ?zwk4 ?zwk5 ?_; (case zwk1 => k_asm); (case zwk2 => k_asm); (case zwk3 => exact kso_isList (by k_asm) (by k_mem) rfl); (case zwk4 => assumption); (case zwk5 => omega); k_whole; intro D' v' n' c' h' F' N' l1 i' e' p' o' b'; (try k_lt l1))
  k_with "state" => first | exact ⟨NumP.start, by simp⟩ | (refine (fun h => ⟨h, NumP.len hts hm0 hm2 h⟩) ?_; first | exact NumP.take (by assumption) hq9 (by assumption) (by assumption) | exact NumP.skip (by assumption) hq9 (by rintro ⟨c8, c9⟩; first | omega | exact absurd c9 (by assumption)))
  k_with "state" => (refine ⟨NumQ.start hA9, ?_⟩; simp; omega)
  k_with "state" => (refine ⟨NumQ.put (by assumption) hA9 (by assumption), ?_⟩; simp; omega)
  k_with "state" => (refine ⟨NumQ.skip (by assumption) hA9 (by assumption), ?_⟩; simp; omega)
  k_with "pyIter ref" => k_of "other" => (k_state (fun pre nums left => NumP ts f mk d pre nums left ∧ nums.length ≤ 200) "numbers" "left"; try (have hq9 := hx _ ((List.Perm.mem_iff (by assumption)).mp (List.mem_reverse.mp kMem))))
  k_with "pyIter ref" => k_of "place" => ((have hA9 := NumP.fin (by assumption) (by assumption) (by assumption) h1 h2); k_state_short (fun pre nums => NumQ ts f mk d pre nums ∧ nums.length ≤ 200 + pre.length) "numbers")
  k_with "call ref" => (k_dflt (refine' Spec.use (IH _ _ _ _ hq9.1 hq9.2 (by omega)) ?k1 ?k2 ?k3 ?k4 ?k5 ?k6 ?k7 ?k8 ?k9 ?_); (case k1 => k_asm); (case k2 => k_asm); (case k3 => k_asm); (case k4 => k_asm); (case k5 => k_asm); (case k6 => exact rfl); (case k7 => k_mem); (case k8 => ktr_room); (case k9 => ktr_units); intro r9 tl9 h9 tk9 F9 N9 g9 p9; obtain ⟨a9, vs9, k9, rfl, rfl, i9⟩ := p9; (have l9 := g9 _ (List.mem_singleton.mpr rfl)); clear g9; simp only [List.cons_append, List.nil_append] at N9; (have len9 := numsF_len hts f kN (d + kN) hq9.1 hq9.2); (try k_lt l9); (try dsimp only); (try k_fold))
  k_steps
  rename News h₀ _ _ _ => nE
  dsimp only at nE
  refine end1 hret (by assumption) nE (by k_mem) (by walk_at "sub") (by walk_at "lt") ⟨_, _, _, rfl, rfl, ?_⟩
  rename NumQ _ _ _ _ _ _ => hQ
  rw [← NumQ.fin hQ]
  assumption
end
theorem c_num (w : World) (mean : ExcName → Option Value) (mg mb : Str → Option Value) (ts : List Int) (hts : ∀ x ∈ ts, 0 < x ∧ x < 16)
    (l : Addr) (vl : List Value) (xs : List Int) (k : Nat) (hI : IntsAre vl xs) (hx : ∀ x ∈ xs, 0 < x ∧ x < 16) (hlen : xs.length ≤ 8) (h1 : ts.Perm xs) (h2 : ts.Pairwise (fun a b => b ≤ a)) :
    ∀ (f : Nat) (mk : Int) (t : Tok) (d : Int) (u : Tok), 0 < mk → mk < 16 → mk.toNat < f →
      Spec w mean mg mb 74 f [Value.int mk t, Value.ref l, Value.int d u] (fun news => (l, listOf vl.toArray k) ∈ news) (fun tl r => ∃ a vs k, r = .ref a ∧ tl = [(a, listOf vs.toArray k)] ∧ IntsAre vs (numsF ts f mk d))
  | 0, _, _, _, _, _, _, h => absurd h (Nat.not_lt_zero _)
  | f + 1, mk, t, d, u, h0, h1', h => c_num_step w mean mg mb ts hts f l vl xs k hI hx hlen h1 h2 (fun mk' t' d' u' a b c => c_num w mean mg mb ts hts l vl xs k hI hx hlen h1 h2 f mk' t' d' u' a b c) mk t d u h0 h1' h

end
section
open PySem PySem.W PySem.Spec PySem.Calls PyProof.Rows
set_option maxHeartbeats 0
set_option rowWalk.seconds 0
section
theorem c_oct (w : World) (mean : ExcName → Option Value) (mg mb : Str → Option Value) (n : Int) (t : Tok) (h0 : 0 ≤ n) (h1 : n < 262144) :
    Spec w mean mg mb 81 1 [Value.int n t] (fun _ => True) (fun tl r => ∃ a vs k, r = .ref a ∧ tl = [(a, listOf vs.toArray k)] ∧ IntsAre vs (octF n)) := by
  w_top off
  k_with_none
  k_with "call builtin:list.extend" => (k_here; (with_reducible show wpAny _ _ (call (Value.builtin _) [Value.ref _, Value.ref _]) _ _ _); k_dflt (refine' my_extend ?zwF ?zwN ?zwU ?zwb ?zwi ?zwj ?zwz ?_; (case zwF => k_asm); (case zwN => k_asm); (case zwb => k_mem); (case zwU => (intro t'; k_upd)); (case zwi => assumption); (case zwj => assumption); (case zwz => (rw [sizeLine_eq]; omega))); intro k' h' F' N' i')
  k_with "call builtin:iter" => (k_here; (with_reducible show wpAny _ _ (call (Value.builtin "iter") [Value.ref _]) _ _ _); k_dflt (refine' my_iter ?zwF ?zwN ?zwm ?_; (case zwF => k_asm); (case zwN => k_asm); (case zwm => k_mem)); intro I' h' F' N' l1; (try k_lt l1))
  k_with "WhlIf" => first | (refine WhlIf.yes (decide_eq_true (by (try simp only [fd64, fm64]); omega)) ?_) | (refine WhlIf.no (decide_eq_false (by (try simp only [fd64, fm64]); omega)) ?_)
  have : (Challenge.rw_rs0060_01 = Challenge.rw_rs0060_01 ∧ Mine.hd.heap_39 = Mine.hd.heap_39) := by k_fill; exact ⟨rfl, rfl⟩
  clear this
  intro dp un gd cn cs a ccd cl outer A₀ base h₀ L m news s Q E B F X N T hk hP hdp hun hret
  refine wpAny_call ?_
  k_dflt ktr_enter
  rcases (show n ≤ 63 ∨ (63 < n ∧ n / 64 ≤ 63) ∨ (63 < n ∧ 63 < n / 64 ∧ n / 64 / 64 ≤ 63) by omega) with c1 | ⟨c1, c2⟩ | ⟨c1, c2, c3⟩
  all_goals k_steps
  all_goals
    (rename News h₀ _ _ _ => nE
     rename _ ∧ AllLt _ _ => hlt
     dsimp only at nE
     refine end1 hret (by assumption) nE (by k_mem) (by repeat (first | exact sub_refl | refine sub_tail ?_)) (all_gt hlt.2) ⟨_, _, _, rfl, rfl, ?_⟩
     simp only [fd64, fm64, octF])
  · rw [if_pos c1]; exact .cons _ _ .nil
  · rw [if_neg (by omega), if_pos c2]; exact .cons _ _ (.cons _ _ .nil)
  · rw [if_neg (by omega), if_neg (by omega)]; exact .cons _ _ (.cons _ _ (.cons _ _ .nil))
end

end
section
open PySem PySem.W PySem.Spec PySem.Calls PyProof.Rows
/-- the text that a table of texts gives at an int, or another -/
noncomputable def textAt (D : List (Int × PyData)) (k : Int) (y : Str) : Str := match KTD.datumAt k D with
  | some (.str x) => x
  | _ => y
@[reducible] noncomputable def flagTab : List (Int × PyData) :=
  [(1, .str { cps := #[79, 80, 84, 73, 77, 73, 90, 69, 68] }),
   (2, .str { cps := #[78, 69, 87, 76, 79, 67, 65, 76, 83] }),
   (4, .str { cps := #[86, 65, 82, 65, 82, 71, 83] }),
   (8, .str { cps := #[86, 65, 82, 75, 69, 89, 87, 79, 82, 68, 83] }),
   (16, .str { cps := #[78, 69, 83, 84, 69, 68] }),
   (32, .str { cps := #[71, 69, 78, 69, 82, 65, 84, 79, 82] }),
   (64, .str { cps := #[78, 79, 70, 82, 69, 69] }),
   (128, .str { cps := #[67, 79, 82, 79, 85, 84, 73, 78, 69] }),
   (256, .str { cps := #[73, 84, 69, 82, 65, 66, 76, 69, 95, 67, 79, 82, 79, 85, 84, 73, 78, 69] }),
   (512, .str { cps := #[65, 83, 89, 78, 67, 95, 71, 69, 78, 69, 82, 65, 84, 79, 82] })]
noncomputable def allStr (D : List (Int × PyData)) : Bool := D.all fun p => match p.2 with | .str _ => true | _ => false
theorem allStr_at {D : List (Int × PyData)} (h : allStr D = true) {k : Int} {d : PyData} (e : KTD.datumAt k D = some d) : ∃ x, d = .str x := by
  induction D with
  | nil => cases e
  | cons p D ih =>
    obtain ⟨i, d'⟩ := p
    simp only [allStr, List.all_cons, Bool.and_eq_true] at h
    simp only [KTD.datumAt] at e
    split at e
    · cases e
      cases d <;> simp at h
      exact ⟨_, rfl⟩
    · exact ih h.2 e
section
variable {prog : Program} {w : World} {A : Around} {E : Value → Shared → Prop} {s : Shared} {h₀ : Heap} {a : Addr} {D : List (Int × PyData)} {k : Int} {tk ty : Tok} {y : Str}
theorem get2_str {Q : Value → Shared → Prop} (K : KTD.Keyed h₀ a D) (hk : ∀ b o, h₀.get? b = some o → s.heap.get? b = some o) (hD : allStr D = true)
    (h : ∀ t', Q (.str (textAt D k y) t') { s with toks := s.toks + 1 }) :
    wpAny (model prog w) A (call (.builtin "dict.get") [.ref a, .int k tk, .str y ty]) Q E s :=
  call_get2_intTab (K.keep hk prog w) (PyProof.V.Flat.str y ty) fun v hv => by
    rw [KTD.lookup_keyed] at hv
    cases hat : KTD.datumAt k D with
    | some d =>
      obtain ⟨x, rfl⟩ := allStr_at hD hat
      rw [hat] at hv
      obtain ⟨t', rfl⟩ := PyProof.V.Flat.str_inv hv
      have := h t'
      simp only [textAt, hat] at this
      exact this
    | none =>
      rw [hat] at hv
      obtain ⟨t', rfl⟩ := PyProof.V.Flat.str_inv hv
      have := h t'
      simp only [textAt, hat] at this
      exact this
end
noncomputable def flagName (i : Int) : Str := textAt flagTab (1 * 2 ^ i.toNat) (baseText "0x" 16 (1 * 2 ^ i.toNat))
/-- the names of the flags from place i on; none if no flag is the last within the turns -/
noncomputable def nlF : Nat → Int → Int → Option (List Str)
  | 0, _, _ => none
  | f + 1, i, fl =>
    if Builtin.bitAnd fl (1 * 2 ^ i.toNat) ≠ 0 then
      (if Builtin.bitXor fl (1 * 2 ^ i.toNat) = 0 then some [flagName i] else (nlF f (i + 1) (Builtin.bitXor fl (1 * 2 ^ i.toNat))).map (flagName i :: ·))
    else nlF f (i + 1) fl
noncomputable def PrP (res : List Str) (pre : List Int) (ns : List Str) (fl : Int) : Prop := (nlF (32 - pre.length) (pre.length : Int) fl).map (ns ++ ·) = some res
theorem hex_len {k : Int} (h0 : 0 ≤ k) (h1 : k < 32) : (baseText "0x" 16 (1 * 2 ^ k.toNat)).length ≤ sizeLine := by
  have key : ∀ i : Fin 32, (baseText "0x" 16 (1 * 2 ^ i.val)).length ≤ 40 := by decide +kernel
  have := key ⟨k.toNat, by omega⟩
  rw [sizeLine_eq]
  have h2 : (baseText "0x" 16 (1 * 2 ^ k.toNat)).length ≤ 40 := this
  omega
theorem flag_len {k : Int} (h0 : 0 ≤ k) (h1 : k < 32) : (flagName k).length ≤ 40 := by
  have key : ∀ i : Fin 32, (flagName (i.val : Int)).length ≤ 40 := by decide +kernel
  have := key ⟨k.toNat, by omega⟩
  rwa [Int.toNat_of_nonneg h0] at this
section
variable {res ns : List Str} {pre : List Int} {fl k : Int}
theorem PrP.skip (h : PrP res pre ns fl) (hk : k = 0 + (pre.length : Int)) (hl : pre.length < 32) (c : ¬ Builtin.bitAnd fl (1 * 2 ^ k.toNat) ≠ 0) : PrP res (pre ++ [k]) ns fl := by
  unfold PrP at h ⊢
  rw [Int.zero_add] at hk
  subst hk
  have e : 32 - pre.length = (32 - (pre.length + 1)) + 1 := by omega
  rw [e] at h
  simp only [nlF, if_neg c] at h
  simpa using h
theorem PrP.more (h : PrP res pre ns fl) (hk : k = 0 + (pre.length : Int)) (hl : pre.length < 32) (c : Builtin.bitAnd fl (1 * 2 ^ k.toNat) ≠ 0) (d : Builtin.bitXor fl (1 * 2 ^ k.toNat) ≠ 0) : PrP res (pre ++ [k]) (ns ++ [flagName k]) (Builtin.bitXor fl (1 * 2 ^ k.toNat)) := by
  unfold PrP at h ⊢
  rw [Int.zero_add] at hk
  subst hk
  have e : 32 - pre.length = (32 - (pre.length + 1)) + 1 := by omega
  rw [e] at h
  simp only [nlF, if_pos c, if_neg d] at h
  rw [← h]
  simp only [List.length_append, List.length_cons, List.length_nil, Option.map_map, Nat.zero_add, Int.natCast_add, Int.natCast_one]
  congr 1
  funext l
  simp
theorem PrP.last (h : PrP res pre ns fl) (hk : k = 0 + (pre.length : Int)) (hl : pre.length < 32) (c : Builtin.bitAnd fl (1 * 2 ^ k.toNat) ≠ 0) (d : Builtin.bitXor fl (1 * 2 ^ k.toNat) = 0) : ns ++ [flagName k] = res := by
  unfold PrP at h
  rw [Int.zero_add] at hk
  subst hk
  have e : 32 - pre.length = (32 - (pre.length + 1)) + 1 := by omega
  rw [e] at h
  simp only [nlF, if_pos c, if_pos d] at h
  simpa using h
theorem PrP.never (h : PrP res (rangeKs 0 32) ns fl) : False := by
  unfold PrP at h
  rw [rangeKs_length] at h
  simp [nlF] at h
end

end
section
open PySem PySem.W PySem.Spec PySem.Calls PyProof.Rows
set_option maxHeartbeats 0
set_option rowWalk.seconds 0
section
theorem c_pretty (w : World) (mean : ExcName → Option Value) (mg mb : Str → Option Value) (fl : Int) (t : Tok) (res : List Str) (hres : nlF 32 0 fl = some res) (hsz : (res.map (·.length)).sum + res.length * (Str.ofString ", ").length ≤ 16777216) :
    Spec w mean mg mb 22 1 [Value.int fl t] (fun _ => True) (fun tl r => ∃ t, r = .str (Txt.join (Str.ofString ", ") res) t ∧ tl = []) := by
  w_top off
  k_with_none
  k_with "call builtin:list.extend" => (k_here; (with_reducible show wpAny _ _ (call (Value.builtin _) [Value.ref _, Value.ref _]) _ _ _); k_dflt (refine' my_extend ?zwF ?zwN ?zwU ?zwb ?zwi ?zwj ?zwz ?_; (case zwF => k_asm); (case zwN => k_asm); (case zwb => k_mem); (case zwU => (intro t'; k_upd)); (case zwi => assumption); (case zwj => assumption); (case zwz => (rw [sizeLine_eq]; omega))); intro k' h' F' N' i')
  k_with "call builtin:iter" => (k_here; (with_reducible show wpAny _ _ (call (Value.builtin "iter") [Value.ref _]) _ _ _); k_dflt (refine' my_iter ?zwF ?zwN ?zwm ?_; (case zwF => k_asm); (case zwN => k_asm); (case zwm => k_mem)); intro I' h' F' N' l1; (try k_lt l1))
  k_with "exec For Name Call cons cons" => refine wpAny_For ?_
  k_with "pyIter ref" => refine Stop.mk ?_
  k_with "InvEndN" => refine Stop.mk ?_
  k_with "call builtin:str.join" => refine Stop.mk ?_
  k_with "call builtin:hex" => refine P.hex_of_int ?_ (hex_len (by omega) (by omega))
  k_with "call builtin:dict.get" => (refine get2_str (D := flagTab) (by assumption) (by kt_keeps) (by decide) ?_; intro t')
  have : (Challenge.rw_rs0060_01 = Challenge.rw_rs0060_01 ∧ Mine.hd.heap_39 = Mine.hd.heap_39) := by k_fill; exact ⟨rfl, rfl⟩
  clear this
  have kMark := kstMark
  intro dp un gd cn cs a ccd cl outer A₀ base h₀ L m news s Q E B F X N T hk hP hdp hun hret
  refine wpAny_call ?_
  k_dflt ktr_enter
  k_steps
  refine Stop.go ?_
  k_dflt (refine' kst_range_left (n := 32) (σ := List Value × Nat × List Str × Int × Tok) (fun c => (?l, listOf c.1.toArray c.2.1) :: news) (fun c => [(Str.ofString "flags", .int c.2.2.2.1 c.2.2.2.2)]) (fun c => StrsAre c.1 c.2.2.1) [Str.ofString "flag"] (fun pre c => PrP res pre c.2.2.1 c.2.2.2.1 ∧ c.2.2.1.length ≤ pre.length) ([], 0, [], fl, t) ?hh ?hr ?hs ?hn ?F ?N ?hf ?hk ?hp ?hx ?hpl ?hE ?turn ?never)
  (case hh => rfl)
  (case hr => assumption)
  (case hs => decide)
  (case hn => rfl)
  (case F => k_asm)
  (case N => k_asm)
  (case hf => exact StrsAre.nil)
  (case hk => (intro p hp; simp only [List.mem_singleton] at hp; subst hp; rfl))
  (case hp => exact ⟨by simp [PrP, hres], by simp⟩)
  (case hx => rfl)
  (case hpl => rfl)
  (case hE => passes_own)
  (case never => exact fun c _ h => h.1.never)
  intro c pre kN kT kU kH kTk own kEq kLt kOff kFacts kInv kFr kNews
  obtain ⟨vs9, k9, ns9, fl9, tk9⟩ := c
  dsimp only [kstB] at kFacts kInv kFr kNews kOff
  simp only [List.cons_append] at kNews
  simp only [List.map_cons] at kOff
  obtain ⟨kI, kLn⟩ := kInv
  have kLn2 := StrsAre.length kFacts
  have kLn3 := flag_len (k := kN) (by omega) (by omega)
  (try dsimp only); (try k_fold)
  k_steps
  · refine Stop.go ?_
    rename News _ _ _ _ => nE
    simp only [List.push_toArray] at nE
    exact kst_end ⟨_, _, _, _, _⟩ (by assumption) nE (List.forall_mem_cons.mpr ⟨List.mem_cons_self, fun p hp => List.mem_cons_of_mem _ (List.mem_append.mpr (.inl hp))⟩)
      (fun p hp => List.mem_cons_of_mem _ (List.mem_append.mpr (.inr hp))) rfl (strsAre_append kFacts (.cons _ _ .nil)) (List.forall_mem_cons.mpr ⟨rfl, fun _ h => nomatch h⟩) (by kst_same)
      ⟨PrP.more kI kEq kLt (by assumption) (by assumption), by simp; omega⟩
  · refine Stop.go ?_
    rename News _ _ _ _ => nE
    simp only [List.push_toArray] at nE
    have e9 := PrP.last kI kEq kLt (by assumption) (by assumption)
    refine join_list (ys := res) ⟨_, (nE _ List.mem_cons_self).1, rfl, _, rfl⟩ (e9 ▸ strsAre_append kFacts (.cons _ _ .nil)) hsz ?_
    intro t9 k9
    k_steps
    rename News h₀ _ _ _ => nF
    dsimp only at nF
    exact end0 hret (by assumption) nF (fun p hp => List.mem_cons_of_mem _ (List.mem_append.mpr (.inl hp))) ⟨_, rfl, rfl⟩
  · refine Stop.go ?_
    rename News _ _ _ _ => nE
    exact kst_end ⟨_, _, _, _, _⟩ (by assumption) nE (List.forall_mem_cons.mpr ⟨List.mem_cons_self, fun p hp => List.mem_cons_of_mem _ (List.mem_append.mpr (.inl hp))⟩)
      (fun p hp => List.mem_cons_of_mem _ (List.mem_append.mpr (.inr hp))) rfl kFacts (List.forall_mem_cons.mpr ⟨rfl, fun _ h => nomatch h⟩) (by kst_same)
      ⟨PrP.skip kI kEq kLt (by first | assumption | exact not_not_intro (by assumption)), by simp; omega⟩
end

end
section
open PySem PySem.W PySem.Spec PySem.Calls PyProof.Rows
theorem bitOr_nat {x y : Int} (hx : 0 ≤ x) (hy : 0 ≤ y) : Builtin.bitOr x y = ((x.toNat ||| y.toNat : Nat) : Int) := by
  unfold Builtin.bitOr
  have h1 : Builtin.bitNot x < 0 := by unfold Builtin.bitNot; omega
  have h2 : Builtin.bitNot y < 0 := by unfold Builtin.bitNot; omega
  have e : ∀ z : Int, Builtin.bitNot (Builtin.bitNot z) = z := by intro z; unfold Builtin.bitNot; omega
  unfold Builtin.bitAnd
  rw [decide_eq_false (by omega), decide_eq_false (by omega)]
  dsimp only
  rw [e, e, e]
theorem or64 {v r : Int} (hv : 0 ≤ v) (hr : 0 ≤ r) (hr' : r < 64) : Builtin.bitOr (v * 2 ^ (6 : Int).toNat) r = v * 64 + r := by
  have e6 : (2 : Int) ^ (6 : Int).toNat = 64 := by decide
  rw [e6, bitOr_nat (by omega) hr]
  have h1 : (v * 64).toNat = v.toNat <<< 6 := by rw [Nat.shiftLeft_eq]; omega
  rw [h1, ← Nat.shiftLeft_add_eq_or_of_lt (i := 6) (b := r.toNat) (by omega), Nat.shiftLeft_eq]
  omega
theorem and63 {r : Int} (h0 : 0 ≤ r) (h1 : r < 64) : Builtin.bitAnd r 63 = r := by
  have key : ∀ i : Fin 64, Builtin.bitAnd (i.val : Int) 63 = i.val := by decide +kernel
  have := key ⟨r.toNat, by omega⟩
  simpa only [Int.toNat_of_nonneg h0] using this
theorem and63' {r : Int} (h0 : 0 ≤ r) (h1 : r < 64) : Builtin.bitAnd (64 + r) 63 = r := by
  have key : ∀ i : Fin 64, Builtin.bitAnd (64 + (i.val : Int)) 63 = i.val := by decide +kernel
  have := key ⟨r.toNat, by omega⟩
  simpa only [Int.toNat_of_nonneg h0] using this
theorem and64 {r : Int} (h0 : 0 ≤ r) (h1 : r < 64) : Builtin.bitAnd r 64 = 0 := by
  have key : ∀ i : Fin 64, Builtin.bitAnd (i.val : Int) 64 = 0 := by decide +kernel
  have := key ⟨r.toNat, by omega⟩
  simpa only [Int.toNat_of_nonneg h0] using this
theorem and64' {r : Int} (h0 : 0 ≤ r) (h1 : r < 64) : Builtin.bitAnd (64 + r) 64 ≠ 0 := by
  have key : ∀ i : Fin 64, Builtin.bitAnd (64 + (i.val : Int)) 64 ≠ 0 := by decide +kernel
  have := key ⟨r.toNat, by omega⟩
  simpa only [Int.toNat_of_nonneg h0] using this
theorem dec1 {x : Int} (h0 : 0 ≤ x) (h1 : x ≤ 63) : Builtin.bitAnd (x % 64) 63 = x := by rw [and63 (by omega) (by omega)]; omega
theorem dec2 {x : Int} (h0 : 63 < x) (h1 : x / 64 ≤ 63) : Builtin.bitOr (Builtin.bitAnd (64 + x / 64 % 64) 63 * 2 ^ (6 : Int).toNat) (Builtin.bitAnd (x % 64) 63) = x := by
  rw [and63' (by omega) (by omega), and63 (by omega) (by omega), or64 (by omega) (by omega) (by omega)]; omega
theorem dec3 {x : Int} (h0 : 63 < x / 64) (h1 : x < 262144) : Builtin.bitOr (Builtin.bitOr (Builtin.bitAnd (64 + x / 64 / 64 % 64) 63 * 2 ^ (6 : Int).toNat) (Builtin.bitAnd (64 + x / 64 % 64) 63) * 2 ^ (6 : Int).toNat) (Builtin.bitAnd (x % 64) 63) = x := by
  rw [and63' (by omega) (by omega), and63' (by omega) (by omega), and63 (by omega) (by omega), or64 (v := x / 64 / 64 % 64) (r := x / 64 % 64) (by omega) (by omega) (by omega), or64 (by omega) (by omega) (by omega)]; omega
/-- the text that told files a mask under -/
noncomputable def nmF (sh m : Int) : Option Str := (nlF 32 0 (m * 2 ^ sh.toNat)).map (Txt.join (Str.ofString ", "))
noncomputable abbrev TSt := List Int × List (Str × Int)
/-- one symbol read -/
noncomputable def toldStep (sh : Int) (st : TSt) (x : Int) : Option TSt :=
  if x = 0 then match st.1.reverse with
    | m :: q :: r => (nmF sh m).map fun y => (r.reverse ++ [q + m], kdpPut st.2 y m)
    | _ => none
  else if x < 256 then match st.1.reverse with
    | q :: r => some (r.reverse ++ [q + 2 ^ ((255 - x).fmod 4).toNat], st.2)
    | _ => none
  else some (st.1 ++ [0], st.2)
noncomputable def toldRun (sh : Int) : List Int → TSt → Option TSt
  | [], st => some st
  | x :: xs, st => (toldStep sh st x).bind (toldRun sh xs)
theorem toldRun_append (sh : Int) : ∀ (a b : List Int) (st : TSt), toldRun sh (a ++ b) st = (toldRun sh a st).bind (toldRun sh b)
  | [], _, _ => rfl
  | x :: a, b, st => by
    show (toldStep sh st x).bind (toldRun sh (a ++ b)) = ((toldStep sh st x).bind (toldRun sh a)).bind (toldRun sh b)
    cases toldStep sh st x with
    | none => rfl
    | some st' => exact toldRun_append sh a b st'
theorem rev_two {l : List Int} {m q : Int} {r : List Int} (h : l.reverse = m :: q :: r) : l = r.reverse ++ [q, m] := by
  have := congrArg List.reverse h
  simpa using this
theorem rev_one {l : List Int} {q : Int} {r : List Int} (h : l.reverse = q :: r) : l = r.reverse ++ [q] := by
  have := congrArg List.reverse h
  simpa using this
noncomputable def TInv (n : Nat) (st : TSt) : Prop := (∀ v ∈ st.1, 0 ≤ v) ∧ st.1.sum ≤ 8 * (n : Int) ∧ st.1.length ≤ 1 + n ∧ st.2.length ≤ n
theorem pow4 (x : Int) : 0 ≤ (2 : Int) ^ ((255 - x).fmod 4).toNat ∧ (2 : Int) ^ ((255 - x).fmod 4).toNat ≤ 8 := by
  have e : (255 - x).fmod 4 = (255 - x) % 4 := Int.fmod_eq_emod_of_nonneg _ (by decide)
  rw [e]
  have h0 : 0 ≤ (255 - x) % 4 := Int.emod_nonneg _ (by decide)
  have h1 : (255 - x) % 4 < 4 := Int.emod_lt_of_pos _ (by decide)
  generalize (255 - x) % 4 = k at h0 h1
  have key : ∀ i : Fin 4, 0 ≤ (2 : Int) ^ i.val ∧ (2 : Int) ^ i.val ≤ 8 := by decide
  exact key ⟨k.toNat, by omega⟩
theorem toldStep_inv {sh : Int} {n : Nat} {st st' : TSt} {x : Int} (I : TInv n st) (h : toldStep sh st x = some st') : TInv (n + 1) st' := by
  obtain ⟨i1, i2, i3, i4⟩ := I
  unfold toldStep at h
  split at h
  · split at h
    · rename_i m q r e
      have e' := rev_two e
      cases hy : nmF sh m with
      | none => rw [hy] at h; cases h
      | some y =>
        rw [hy] at h
        cases h
        rw [e'] at i1 i2 i3
        simp only [List.sum_append, List.sum_cons, List.sum_nil, List.length_append, List.length_cons, List.length_nil] at i2 i3
        have hq := i1 q (by simp)
        have hm := i1 m (by simp)
        refine ⟨fun v hv => ?_, ?_, ?_, ?_⟩
        · rcases List.mem_append.mp hv with hv | hv
          · exact i1 v (List.mem_append.mpr (.inl hv))
          · rw [List.mem_singleton.mp hv]; omega
        · simp only [List.sum_append, List.sum_cons, List.sum_nil]; omega
        · simp only [List.length_append, List.length_cons, List.length_nil]; omega
        · have := kdpPut_len st.2 y m
          dsimp only
          omega
    · cases h
  · split at h
    · split at h
      · rename_i q r e
        have e' := rev_one e
        cases h
        rw [e'] at i1 i2 i3
        simp only [List.sum_append, List.sum_cons, List.sum_nil, List.length_append, List.length_cons, List.length_nil] at i2 i3
        have hq := i1 q (by simp)
        have p4 := pow4 x
        refine ⟨fun v hv => ?_, ?_, ?_, ?_⟩
        · rcases List.mem_append.mp hv with hv | hv
          · exact i1 v (List.mem_append.mpr (.inl hv))
          · rw [List.mem_singleton.mp hv]; omega
        · simp only [List.sum_append, List.sum_cons, List.sum_nil]; omega
        · simp only [List.length_append, List.length_cons, List.length_nil]; omega
        · dsimp only; omega
      · cases h
    · cases h
      refine ⟨fun v hv => ?_, ?_, ?_, ?_⟩
      · rcases List.mem_append.mp hv with hv | hv
        · exact i1 v hv
        · rw [List.mem_singleton.mp hv]; omega
      · simp only [List.sum_append, List.sum_cons, List.sum_nil]; omega
      · simp only [List.length_append, List.length_cons, List.length_nil]; omega
      · dsimp only; omega
theorem toldRun_inv {sh : Int} : ∀ {xs : List Int} {n : Nat} {st st' : TSt}, TInv n st → toldRun sh xs st = some st' → TInv (n + xs.length) st'
  | [], n, st, st', I, h => by cases h; exact I
  | x :: xs, n, st, st', I, h => by
    cases hs : toldStep sh st x with
    | none => simp only [toldRun, hs] at h; cases h
    | some st₁ =>
      simp only [toldRun, hs] at h
      have := toldRun_inv (toldStep_inv I hs) h
      rw [List.length_cons]
      have e : n + (xs.length + 1) = n + 1 + xs.length := by omega
      rw [e]
      exact this
theorem mem_le_sum : ∀ {l : List Int} {v : Int}, (∀ x ∈ l, 0 ≤ x) → v ∈ l → v ≤ l.sum
  | x :: l, v, h, hv => by
    have hs : 0 ≤ l.sum := by
      clear hv
      have h' : ∀ x ∈ l, 0 ≤ x := fun y hy => h y (.tail _ hy)
      clear h
      induction l with
      | nil => simp
      | cons y l ih => rw [List.sum_cons]; have := h' y (.head _); have := ih (fun z hz => h' z (.tail _ hz)); omega
    rw [List.sum_cons]
    have h0 := h x (.head _)
    rcases List.mem_cons.mp hv with rfl | hv
    · omega
    · have := mem_le_sum (fun y hy => h y (.tail _ hy)) hv; omega
/-- lengths of names -/
theorem nlF_len : ∀ {f : Nat} {i fl : Int} {res : List Str}, 0 ≤ i → i + f ≤ 32 → nlF f i fl = some res → res.length ≤ f ∧ ∀ x ∈ res, x.length ≤ 40
  | 0, _, _, _, _, _, h => by cases h
  | f + 1, i, fl, res, h0, h1, h => by
    have fl40 := flag_len (k := i) h0 (by omega)
    unfold nlF at h
    split at h
    · split at h
      · cases h
        exact ⟨by simp, fun x hx => by rw [List.mem_singleton.mp hx]; exact fl40⟩
      · cases hr : nlF f (i + 1) (Builtin.bitXor fl (1 * 2 ^ i.toNat)) with
        | none => rw [hr] at h; cases h
        | some r =>
          rw [hr] at h
          cases h
          have := nlF_len (by omega) (by omega) hr
          refine ⟨by simp; omega, fun x hx => ?_⟩
          rcases List.mem_cons.mp hx with rfl | hx
          · exact fl40
          · exact this.2 x hx
    · have := nlF_len (by omega) (by omega) h
      exact ⟨by omega, this.2⟩
theorem sum_len : ∀ {l : List Str} {b : Nat}, (∀ x ∈ l, x.length ≤ b) → (l.map (·.length)).sum ≤ l.length * b
  | [], _, _ => by simp
  | x :: l, b, h => by
    have h1 := h x (.head _)
    have h2 := sum_len (fun y hy => h y (.tail _ hy))
    simp only [List.map_cons, List.sum_cons, List.length_cons, Nat.add_mul]
    omega
theorem nlF_size {fl : Int} {res : List Str} (h : nlF 32 0 fl = some res) : (res.map (·.length)).sum + res.length * (Str.ofString ", ").length ≤ 16777216 := by
  obtain ⟨a, b⟩ := nlF_len (by omega) (by omega) h
  have h2 := sum_len b
  have e : (Str.ofString ", ").length = 2 := by decide
  rw [e]
  have : res.length * 40 ≤ 32 * 40 := Nat.mul_le_mul_right _ a
  omega
structure TS where
  pre : List Int
  post : List Int
  vp : List Value
  kp : Nat
  pile : List Int
  o : Obj
  kvs : List (Str × Value)
  c : List (Str × Int)
noncomputable def TP (sh : Int) (xs : List Int) (c : TS) : Prop := xs = c.pre ++ c.post ∧ toldRun sh c.pre ([0], []) = some (c.pile, c.c)
theorem tape_at {pre post xs : List Int} {x b : Int} (e : xs = pre ++ x :: post) (j : Nat) (hb : (octF x)[j]? = some b) : (xs.flatMap octF)[(pre.flatMap octF).length + j]? = some b := by
  rw [e, List.flatMap_append, List.flatMap_cons, List.getElem?_append_right (by omega)]
  have : (pre.flatMap octF).length + j - (pre.flatMap octF).length = j := by omega
  rw [this]
  have hj : j < (octF x).length := by
    rcases Nat.lt_or_ge j (octF x).length with h | h
    · exact h
    · rw [List.getElem?_eq_none h] at hb; cases hb
  rw [List.getElem?_append_left hj]
  exact hb
theorem tape_val {vt : List Value} {pre post xs : List Int} {x b : Int} (hT : IntsAre vt (xs.flatMap octF)) (e : xs = pre ++ x :: post) (j : Nat) (hb : (octF x)[j]? = some b) : ∃ t, vt[(pre.flatMap octF).length + j]? = some (.int b t) := hT.get _ _ (tape_at e j hb)
theorem ints_snoc : ∀ {vs : List Value} {p : List Int} {q : Int}, IntsAre vs (p ++ [q]) → ∃ us t, vs = us ++ [.int q t] ∧ IntsAre us p
  | _, [], q, h => by
    cases h with
    | cons n t r => cases r; exact ⟨[], t, rfl, .nil⟩
  | _, a :: p, q, h => by
    cases h with
    | cons n t r =>
      obtain ⟨us, t', e, hu⟩ := ints_snoc r
      exact ⟨.int a t :: us, t', by rw [e]; rfl, .cons a t hu⟩
theorem step_zero {sh : Int} {st st' : TSt} (h : toldStep sh st 0 = some st') : ∃ p q m res, st.1 = (p ++ [q]) ++ [m] ∧ nlF 32 0 (m * 2 ^ sh.toNat) = some res ∧ st' = (p ++ [q + m], kdpPut st.2 (Txt.join (Str.ofString ", ") res) m) := by
  unfold toldStep at h
  rw [if_pos rfl] at h
  split at h
  · rename_i m q r e
    have e' := rev_two e
    unfold nmF at h
    cases hy : nlF 32 0 (m * 2 ^ sh.toNat) with
    | none => rw [hy] at h; cases h
    | some y =>
      rw [hy] at h
      cases h
      exact ⟨r.reverse, q, m, y, by rw [e']; simp, hy, rfl⟩
  · cases h
theorem step_leaf {sh x : Int} {st st' : TSt} (h : toldStep sh st x = some st') (h0 : x ≠ 0) (h1 : x < 256) : ∃ p q, st.1 = p ++ [q] ∧ st' = (p ++ [q + 2 ^ ((255 - x).fmod 4).toNat], st.2) := by
  unfold toldStep at h
  rw [if_neg h0, if_pos h1] at h
  split at h
  · rename_i q r e
    cases h
    exact ⟨r.reverse, q, rev_one e, rfl⟩
  · cases h
theorem step_push {sh x : Int} {st st' : TSt} (h : toldStep sh st x = some st') (h1 : 256 ≤ x) : st' = (st.1 ++ [0], st.2) := by
  unfold toldStep at h
  rw [if_neg (by omega), if_neg (by omega)] at h
  exact (Option.some.inj h).symm
theorem run_next {sh x : Int} {pre post : List Int} {st fin : TSt} (h : toldRun sh pre ([0], []) = some st) (hf : toldRun sh (pre ++ x :: post) ([0], []) = some fin) : ∃ st', toldStep sh st x = some st' ∧ toldRun sh (pre ++ [x]) ([0], []) = some st' := by
  rw [toldRun_append, h] at hf
  have hf' : (toldStep sh st x).bind (toldRun sh post) = some fin := hf
  cases hs : toldStep sh st x with
  | none => rw [hs] at hf'; cases hf'
  | some st' =>
    refine ⟨st', rfl, ?_⟩
    rw [toldRun_append, h]
    show (toldStep sh st x).bind (toldRun sh []) = some st'
    rw [hs]
    rfl

end
section
open PySem PySem.W PySem.Spec PySem.Calls PyProof.Rows
set_option maxHeartbeats 0
set_option rowWalk.seconds 0
section
/-- a number is read from the tape -/
theorem c_varint (w : World) (mean : ExcName → Option Value) (mg mb : Str → Option Value) (I t : Addr) (vt : List Value) (kt i : Nat) (x : Int) (hx0 : 0 ≤ x) (hx1 : x < 262144) (ne : @Ne Nat t I) (hb : ∀ (j : Nat) (b : Int), (octF x)[j]? = some b → ∃ u, vt[i + j]? = some (Value.int b u)) (rest : List (Addr × Obj)) (off : ∀ p ∈ rest, @Ne Nat p.1 I)
    {dp un : Nat} {gd : Option (List Code)} {cn : Str} {cs : Scope} {a : Addr} {ccd : Value} {cl : List (Str × Addr)} {outer : List Env} {A₀ : Around} {base h₀ : Heap} {L : Addr} {m : Str → Option Value} {s : Shared} {Q E : Value → Shared → Prop}
    (B : Below A₀ base outer h₀) (F : Fr h₀ L s.heap m) (X : (hd.heap_39 w.params).In h₀) (N : News h₀ L s.heap ((I, itObj t i) :: (t, listOf vt.toArray kt) :: rest)) (T : Top view LZ mean mg mb h₀) (hk : cs.kind = .function) (hdp : dp + 1 < recursionLimit) (hun : un + 8 * 1 < cLine)
    (hret : ∀ u h' tk', Fr h₀ L h' m → News h₀ L h' ((I, itObj t (i + (octF x).length)) :: (t, listOf vt.toArray kt) :: rest) → Q (.int x u) { s with heap := h', toks := tk' }) :
    wpAny (model PG w) (ktrTop dp un gd cn cs L a ccd cl outer) (call (.ref 29) [.ref I]) Q E s := by
  w_top off
  k_with_none
  k_with "call builtin:list.extend" => (k_here; (with_reducible show wpAny _ _ (call (Value.builtin _) [Value.ref _, Value.ref _]) _ _ _); k_dflt (refine' my_extend ?zwF ?zwN ?zwU ?zwb ?zwi ?zwj ?zwz ?_; (case zwF => k_asm); (case zwN => k_asm); (case zwb => k_mem); (case zwU => (intro t'; k_upd)); (case zwi => assumption); (case zwj => assumption); (case zwz => (rw [sizeLine_eq]; omega))); intro k' h' F' N' i')
  k_with "call builtin:iter" => (k_here; (with_reducible show wpAny _ _ (call (Value.builtin "iter") [Value.ref _]) _ _ _); k_dflt (refine' my_iter ?zwF ?zwN ?zwm ?_; (case zwF => k_asm); (case zwN => k_asm); (case zwm => k_mem)); intro I' h' F' N' l1; (try k_lt l1))
  k_with "inplaceOp LShift int int" => refine ilshift_int_small (by decide) (by decide) (by omega) ?_
  k_with "WhlIf" => first | (refine WhlIf.yes (bne_iff_ne.mpr (by assumption)) ?_) | (refine WhlIf.no (bne_eq_false_iff_eq.mpr (by assumption)) ?_)
  k_with "exec While BinOp cons nil" => refine whl_start 4 ?_
  have : (Challenge.rw_rs0060_01 = Challenge.rw_rs0060_01 ∧ Mine.hd.heap_39 = Mine.hd.heap_39) := by k_fill; exact ⟨rfl, rfl⟩
  clear this
  have kMark := kstMark
  refine wpAny_call ?_
  k_dflt ktr_enter
  k_with_none
  k_with "call builtin:list.extend" => (k_here; (with_reducible show wpAny _ _ (call (Value.builtin _) [Value.ref _, Value.ref _]) _ _ _); k_dflt (refine' my_extend ?zwF ?zwN ?zwU ?zwb ?zwi ?zwj ?zwz ?_; (case zwF => k_asm); (case zwN => k_asm); (case zwb => k_mem); (case zwU => (intro t'; k_upd)); (case zwi => assumption); (case zwj => assumption); (case zwz => (rw [sizeLine_eq]; omega))); intro k' h' F' N' i')
  k_with "call builtin:iter" => (k_here; (with_reducible show wpAny _ _ (call (Value.builtin "iter") [Value.ref _]) _ _ _); k_dflt (refine' my_iter ?zwF ?zwN ?zwm ?_; (case zwF => k_asm); (case zwN => k_asm); (case zwm => k_mem)); intro I' h' F' N' l1; (try k_lt l1))
  k_with "inplaceOp LShift int int" => refine ilshift_int_small (by decide) (by decide) (by omega) ?_
  k_with "WhlIf" => first | (refine WhlIf.yes (bne_iff_ne.mpr (by assumption)) ?_) | (refine WhlIf.no (bne_eq_false_iff_eq.mpr (by assumption)) ?_)
  k_with "exec While BinOp cons nil" => refine whl_start 4 ?_
  k_with "call builtin:next" => (k_here; k_dflt (refine' my_next ?zF ?zN ?zU ?zm ?zx ?_; (case zF => k_asm); (case zN => k_asm); (case zU => exact Upd.head (List.forall_mem_cons.mpr ⟨ne, off⟩)); (case zm => k_mem); (case zx => assumption)); intro h' F' N')
  rcases (show x ≤ 63 ∨ (63 < x ∧ x / 64 ≤ 63) ∨ (63 < x / 64) by omega) with c1 | ⟨c1, c2⟩ | c1
  · have eo : octF x = [x % 64] := by unfold octF; rw [if_pos c1]
    rw [eo] at hb hret
    obtain ⟨t0, h0⟩ := hb 0 _ rfl
    clear hb
    rw [Nat.add_zero] at h0
    have a1 : Builtin.bitAnd (x % 64) 64 = 0 := and64 (by omega) (by omega)
    have a2 : Builtin.bitAnd (x % 64) 63 = x := dec1 (by omega) (by omega)
    k_steps
    rename News h₀ _ _ _ => nE
    dsimp only at nE
    rw [a2]
    exact hret _ _ _ (by assumption) nE
  · have eo : octF x = [64 + x / 64 % 64, x % 64] := by unfold octF; rw [if_neg (by omega), if_pos c2]
    rw [eo] at hb hret
    obtain ⟨t0, h0⟩ := hb 0 _ rfl
    obtain ⟨t1, h1⟩ := hb 1 _ rfl
    clear hb
    rw [Nat.add_zero] at h0
    have a0 : Builtin.bitAnd (64 + x / 64 % 64) 64 ≠ 0 := and64' (by omega) (by omega)
    have a1 : Builtin.bitAnd (x % 64) 64 = 0 := and64 (by omega) (by omega)
    have a3 := and63' (r := x / 64 % 64) (by omega) (by omega)
    have a2 := dec2 (x := x) c1 c2
    k_steps
    rename News h₀ _ _ _ => nE
    dsimp only at nE
    rw [a2]
    exact hret _ _ _ (by assumption) nE
  · have eo : octF x = [64 + x / 64 / 64 % 64, 64 + x / 64 % 64, x % 64] := by unfold octF; rw [if_neg (by omega), if_neg (by omega)]
    rw [eo] at hb hret
    obtain ⟨t0, h0⟩ := hb 0 _ rfl
    obtain ⟨t1, h1⟩ := hb 1 _ rfl
    obtain ⟨t2, h2⟩ := hb 2 _ rfl
    clear hb
    rw [Nat.add_zero] at h0
    have a0 : Builtin.bitAnd (64 + x / 64 % 64) 64 ≠ 0 := and64' (by omega) (by omega)
    have a0' : Builtin.bitAnd (64 + x / 64 / 64 % 64) 64 ≠ 0 := and64' (by omega) (by omega)
    have a1 : Builtin.bitAnd (x % 64) 64 = 0 := and64 (by omega) (by omega)
    have a3 := and63' (r := x / 64 / 64 % 64) (by omega) (by omega)
    have a4 : Builtin.bitOr (Builtin.bitAnd (64 + x / 64 / 64 % 64) 63 * 2 ^ (6 : Int).toNat) (Builtin.bitAnd (64 + x / 64 % 64) 63) = x / 64 / 64 % 64 * 64 + x / 64 % 64 := by
      rw [a3, and63' (by omega) (by omega), or64 (by omega) (by omega) (by omega)]
    have a2 := dec3 (x := x) c1 hx1
    k_steps
    rename News h₀ _ _ _ => nE
    dsimp only at nE
    rw [a2]
    exact hret _ _ _ (by assumption) nE
end
theorem c_varint4 (w : World) (mean : ExcName → Option Value) (mg mb : Str → Option Value) {I t d p : Addr} {od op : Obj} {vt : List Value} {kt i : Nat} {x : Int} (hx0 : 0 ≤ x) (hx1 : x < 262144) (nd : @Ne Nat d I) (np : @Ne Nat p I) (ne : @Ne Nat t I) (hb : ∀ (j : Nat) (b : Int), (octF x)[j]? = some b → ∃ u, vt[i + j]? = some (Value.int b u)) {rest : List (Addr × Obj)} (off : ∀ p ∈ rest, @Ne Nat p.1 I)
    {dp un : Nat} {gd : Option (List Code)} {cn : Str} {cs : Scope} {a : Addr} {ccd : Value} {cl : List (Str × Addr)} {outer : List Env} {A₀ : Around} {base h₀ : Heap} {L : Addr} {m : Str → Option Value} {s : Shared} {Q E : Value → Shared → Prop}
    (B : Below A₀ base outer h₀) (F : Fr h₀ L s.heap m) (X : (hd.heap_39 w.params).In h₀) (N : News h₀ L s.heap ((d, od) :: (p, op) :: (I, itObj t i) :: (t, listOf vt.toArray kt) :: rest)) (T : Top view LZ mean mg mb h₀) (hk : cs.kind = .function) (hdp : dp + 1 < recursionLimit) (hun : un + 8 * 1 < cLine)
    (hret : ∀ u h' tk', Fr h₀ L h' m → News h₀ L h' ((d, od) :: (p, op) :: (I, itObj t (i + (octF x).length)) :: (t, listOf vt.toArray kt) :: rest) → Q (.int x u) { s with heap := h', toks := tk' }) :
    wpAny (model PG w) (ktrTop dp un gd cn cs L a ccd cl outer) (call (.ref 29) [.ref I]) Q E s := by
  have perm : ∀ {o1 o2 o3 o4 : Addr × Obj}, ∀ q ∈ o3 :: o4 :: o1 :: o2 :: rest, q ∈ o1 :: o2 :: o3 :: o4 :: rest := by
    intro o1 o2 o3 o4 q hq
    simp only [List.mem_cons] at hq ⊢
    rcases hq with h | h | h | h | h
    · exact .inr (.inr (.inl h))
    · exact .inr (.inr (.inr (.inl h)))
    · exact .inl h
    · exact .inr (.inl h)
    · exact .inr (.inr (.inr (.inr h)))
  have perm2 : ∀ {o1 o2 o3 o4 : Addr × Obj}, ∀ q ∈ o1 :: o2 :: o3 :: o4 :: rest, q ∈ o3 :: o4 :: o1 :: o2 :: rest := by
    intro o1 o2 o3 o4 q hq
    simp only [List.mem_cons] at hq ⊢
    rcases hq with h | h | h | h | h
    · exact .inr (.inr (.inl h))
    · exact .inr (.inr (.inr (.inl h)))
    · exact .inl h
    · exact .inr (.inl h)
    · exact .inr (.inr (.inr (.inr h)))
  exact c_varint w mean mg mb I t vt kt i x hx0 hx1 ne hb ((d, od) :: (p, op) :: rest) (List.forall_mem_cons.mpr ⟨nd, List.forall_mem_cons.mpr ⟨np, off⟩⟩) B F X (news_pick N perm) T hk hdp hun fun u h' tk' F' N' => hret u h' tk' F' (news_pick N' perm2)

end
section
open PySem PySem.W PySem.Spec PySem.Calls PyProof.Rows
set_option maxHeartbeats 0
set_option rowWalk.seconds 0
theorem oct_len (n : Int) : (octF n).length ≤ 3 := by
  unfold octF
  split
  · simp
  · split <;> simp
section
theorem c_told (w : World) (mean : ExcName → Option Value) (mg mb : Str → Option Value) (l : Addr) (vl : List Value) (xs : List Int) (k : Nat) (sh : Int) (u : Tok) (hI : IntsAre vl xs) (hx : ∀ x ∈ xs, 0 ≤ x ∧ x < 262144) (hlen : xs.length ≤ 500) (hs0 : 0 ≤ sh) (hs1 : sh < 9) (pf : List Int) (cf : List (Str × Int)) (hfin : toldRun sh xs ([0], []) = some (pf, cf)) :
    Spec0 w mean mg mb 88 4 [Value.ref l, Value.int sh u] (fun news => (l, listOf vl.toArray k) ∈ news) (fun tl r => ∃ a o, r = .ref a ∧ tl = [(a, o)] ∧ (a == sysModules) = false ∧ DS w o cf) := by
  w_top off
  k_with_none
  k_with "call builtin:list.extend" => (k_here; (with_reducible show wpAny _ _ (call (Value.builtin _) [Value.ref _, Value.ref _]) _ _ _); k_dflt (refine' my_extend ?zwF ?zwN ?zwU ?zwb ?zwi ?zwj ?zwz ?_; (case zwF => k_asm); (case zwN => k_asm); (case zwb => k_mem); (case zwU => (intro t'; k_upd)); (case zwi => assumption); (case zwj => assumption); (case zwz => (rw [sizeLine_eq]; omega))); intro k' h' F' N' i')
  k_with "call builtin:iter" => (k_here; (with_reducible show wpAny _ _ (call (Value.builtin "iter") [Value.ref _]) _ _ _); k_dflt (refine' my_iter ?zwF ?zwN ?zwm ?_; (case zwF => k_asm); (case zwN => k_asm); (case zwm => k_mem)); intro I' h' F' N' l1; (try k_lt l1))
  k_with "call builtin:next" => (k_here; (with_reducible show wpAny _ _ (call (Value.builtin "next") [Value.ref _]) _ _ _); first | (k_dflt (refine' my_next ?zwF ?zwN ?zwU ?zwm ?zwx ?_; (case zwF => k_asm); (case zwN => k_asm); (case zwU => k_upd); (case zwm => k_mem); (case zwx => assumption)); intro h' F' N') | (k_dflt (refine' my_next_end ?zwhh ?zwF ?zwN ?zwU ?zwm ?zwx ?_; (case zwhh => rfl); (case zwF => k_asm); (case zwN => k_asm); (case zwU => k_upd); (case zwm => k_mem); (case zwx => assumption)); intro h2' h' e' F' N' x'))
  k_with "exec For Name Name cons nil" => (k_here; (rename Fr _ _ _ _ => lF'); (with_unfolding_all refine' For_invVF lF' ?zwk1 ?zwk2 ?_; (case zwk1 => exact rfl); (case zwk2 => exact rfl); k_whole))
  k_with "call builtin:list.pop" => (k_here; (show wpAny _ _ (call (Value.builtin _) [Value.ref _]) _ _ _); k_dflt (refine' my_pop ?zwF ?zwN ?zwU ?zwz ?_; (case zwF => k_asm); (case zwN => k_asm); (case zwU => k_upd); (case zwz => assumption)); intro h' F' N')
  k_with "getItem ref int" => (k_here; k_dflt (refine' my_last ?zwN ?zwm ?_; (case zwN => k_asm); (case zwm => k_mem)))
  k_with "setItem ref int" => (k_here; k_dflt (refine' my_setLast ?zwF ?zwN ?zwU ?_; (case zwF => k_asm); (case zwN => k_asm); (case zwU => k_upd)); intro h' F' N')
  k_with "setItem ref str int" => (k_here; k_dflt (refine' kdp_setItem ?zwF ?zwN ?zwU ?zwd ?zwf ?zwc ?_; (case zwF => k_asm); (case zwN => k_asm); (case zwU => k_updF); (case zwd => assumption); (case zwf => assumption); (case zwc => assumption)); intro h' o' kvs' F' N' d' f')
  k_with "KswEnd" => refine Stop.mk ?_
  k_with "ite" => first | (refine ite_yes (decide_eq_true (by omega)) ?_) | (refine ite_no (decide_eq_false (by omega)) ?_)
  k_with "inplaceOp LShift int int" => refine ilshift_int_small (by decide) (by decide) (by omega) ?_
  k_with "WhlIf" => first | (refine WhlIf.yes (bne_iff_ne.mpr (by assumption)) ?_) | (refine WhlIf.no (bne_eq_false_iff_eq.mpr (by assumption)) ?_)
  k_with "exec While BinOp cons nil" => refine whl_start 4 ?_
  k_with "exec While Constant cons nil" => refine Stop.mk ?_
  have : (Challenge.rw_rs0060_01 = Challenge.rw_rs0060_01 ∧ Mine.hd.heap_39 = Mine.hd.heap_39) := by k_fill; exact ⟨rfl, rfl⟩
  clear this
  have kMark := kstMark
  intro dp un gd cn cs a ccd cl A₀ h₀ L m news s Q E B F X N T hk hP hdp hun hret
  refine wpAny_call ?_
  k_dflt (refine' code_S0 ?k1 ?k2 ?k3 ?k4 ?k5 ?kA ?kF ?kK ?k6 ?k7 ?k8 ?k9 ?kB ?_ ?c2 ?c3 ?c4 ?c5; (case kA => exact rfl); (case kF => exact rfl); (case kK => assumption); (case k1 => k_asm); (case k2 => k_asm); (case k3 => k_asm); (case k4 => k_asm); (case k5 => k_asm); (case k6 => k_is); (case k7 => k_is); (case k8 => ktr_room); (case k9 => exact BindsTo.of_eq rfl); (case c5 => decide); (case kB => exact locs rfl); (case c2 => exact rfl); (case c3 => exact rfl); (case c4 => exact rfl); k_whole)
  intro gT LT hT FGT FT NT BT XT TT DT
  (try dsimp only); (try k_fold)
  k_with_none
  k_with "call builtin:list.extend" => (k_here; (with_reducible show wpAny _ _ (call (Value.builtin _) [Value.ref _, Value.ref _]) _ _ _); k_dflt (refine' my_extend ?zwF ?zwN ?zwU ?zwb ?zwi ?zwj ?zwz ?_; (case zwF => k_asm); (case zwN => k_asm); (case zwb => k_mem); (case zwU => (intro t'; k_upd)); (case zwi => assumption); (case zwj => assumption); (case zwz => (rw [sizeLine_eq]; omega))); intro k' h' F' N' i')
  k_with "call builtin:iter" => (k_here; (with_reducible show wpAny _ _ (call (Value.builtin "iter") [Value.ref _]) _ _ _); k_dflt (refine' my_iter ?zwF ?zwN ?zwm ?_; (case zwF => k_asm); (case zwN => k_asm); (case zwm => k_mem)); intro I' h' F' N' l1; (try k_lt l1))
  k_with "call builtin:next" => (k_here; (with_reducible show wpAny _ _ (call (Value.builtin "next") [Value.ref _]) _ _ _); first | (k_dflt (refine' my_next ?zwF ?zwN ?zwU ?zwm ?zwx ?_; (case zwF => k_asm); (case zwN => k_asm); (case zwU => k_upd); (case zwm => k_mem); (case zwx => assumption)); intro h' F' N') | (k_dflt (refine' my_next_end ?zwhh ?zwF ?zwN ?zwU ?zwm ?zwx ?_; (case zwhh => rfl); (case zwF => k_asm); (case zwN => k_asm); (case zwU => k_upd); (case zwm => k_mem); (case zwx => assumption)); intro h2' h' e' F' N' x'))
  k_with "exec For Name Name cons nil" => (k_here; (rename Fr _ _ _ _ => lF'); (with_unfolding_all refine' For_invVF lF' ?zwk1 ?zwk2 ?_; (case zwk1 => exact rfl); (case zwk2 => exact rfl); k_whole))
  k_with "call builtin:list.pop" => (k_here; (show wpAny _ _ (call (Value.builtin _) [Value.ref _]) _ _ _); k_dflt (refine' my_pop ?zwF ?zwN ?zwU ?zwz ?_; (case zwF => k_asm); (case zwN => k_asm); (case zwU => k_upd); (case zwz => assumption)); intro h' F' N')
  k_with "getItem ref int" => (k_here; k_dflt (refine' my_last ?zwN ?zwm ?_; (case zwN => k_asm); (case zwm => k_mem)))
  k_with "setItem ref int" => (k_here; k_dflt (refine' my_setLast ?zwF ?zwN ?zwU ?_; (case zwF => k_asm); (case zwN => k_asm); (case zwU => k_upd)); intro h' F' N')
  k_with "setItem ref str int" => (k_here; k_dflt (refine' kdp_setItem ?zwF ?zwN ?zwU ?zwd ?zwf ?zwc ?_; (case zwF => k_asm); (case zwN => k_asm); (case zwU => k_updF); (case zwd => assumption); (case zwf => assumption); (case zwc => assumption)); intro h' o' kvs' F' N' d' f')
  k_with "KswEnd" => refine Stop.mk ?_
  k_with "ite" => first | (refine ite_yes (decide_eq_true (by omega)) ?_) | (refine ite_no (decide_eq_false (by omega)) ?_)
  k_with "inplaceOp LShift int int" => refine ilshift_int_small (by decide) (by decide) (by omega) ?_
  k_with "WhlIf" => first | (refine WhlIf.yes (bne_iff_ne.mpr (by assumption)) ?_) | (refine WhlIf.no (bne_eq_false_iff_eq.mpr (by assumption)) ?_)
  k_with "exec While BinOp cons nil" => refine whl_start 4 ?_
  k_with "exec While Constant cons nil" => refine Stop.mk ?_
  k_with "state" => exact ⟨by simp, by simp⟩
  k_with "state" => exact ⟨by simp [*], by have := oct_len kN; simp; omega⟩
  k_with "pyIter ref" => (k_state (fun pre tape => tape = pre.flatMap octF ∧ tape.length ≤ 3 * pre.length) "tape"; try (have hq9 := hx _ kMem))
  k_with "call ref" => (k_dflt (refine' Spec.use (c_oct w mean mg mb _ _ hq9.1 hq9.2) ?k1 ?k2 ?k3 ?k4 ?k5 ?k6 ?k7 ?k8 ?k9 ?_); (case k1 => k_asm); (case k2 => k_asm); (case k3 => k_asm); (case k4 => k_asm); (case k5 => k_asm); (case k6 => exact rfl); (case k7 => exact trivial); (case k8 => ktr_room); (case k9 => ktr_units); intro r9 tl9 h9 tk9 F9 N9 g9 p9; obtain ⟨a9, vs9, k9, rfl, rfl, i9⟩ := p9; (have l9 := g9 _ (List.mem_singleton.mpr rfl)); clear g9; simp only [List.cons_append, List.nil_append] at N9; (have len9 := oct_len kN); (try k_lt l9); (try dsimp only); (try k_fold))
  k_steps
  refine Stop.go ?_
  rename IntsAre _ _ => hTp
  rename _ = List.flatMap octF xs => eTp
  rw [eTp] at hTp
  k_dflt (refine' ksw_while (σ := TS) (fun c => (?xd, c.o) :: (?xp, listOf c.vp.toArray c.kp) :: (?xi, itObj ?xt (c.pre.flatMap octF).length) :: (?xt, listOf (List.toArray ?xvt) ?xkt) :: news) (fun _ => []) (fun c => c.o.IsDictOf (PySem.strKind PG w) c.kvs ∧ PyProof.V.FlatPairs PyData.str c.kvs (kdpD c.c) ∧ IntsAre c.vp c.pile) [Str.ofString "symbol", Str.ofString "mask"] (TP sh xs) (fun c => c.post.length + 1) ⟨[], xs, [.int 0 ?xtk], 0, [0], ?xo, [], []⟩ ?F ?N ?hf ?hk ?hp ?turn ?hE)
  (case N => k_asm)
  (case F => k_asm)
  (case hf => exact ⟨by assumption, by assumption, .cons _ _ .nil⟩)
  (case hk => exact fun _ h => nomatch h)
  (case hp => exact ⟨rfl, rfl⟩)
  (case hE => passes_own)
  intro c kU kH kTk kFacts kInv kFr kNews
  obtain ⟨pre, post, vp, kp, pile, o, kvs, cc⟩ := c
  dsimp only [kstB, TP] at kFacts kInv kFr kNews
  obtain ⟨hD1, hD2, hD3⟩ := kFacts
  obtain ⟨hxs, hrun⟩ := kInv
  have tInv := toldRun_inv (n := 0) ⟨by simp, by simp, by simp, by simp⟩ hrun
  (try dsimp only); (try k_fold)
  cases post with
  | nil =>
    have hEnd9 := IntsAre.length hTp
    rw [hxs, List.append_nil] at hEnd9
    have hEnd8 := Nat.le_of_eq hEnd9
    k_with_none
    k_with "call builtin:list.extend" => (k_here; (with_reducible show wpAny _ _ (call (Value.builtin _) [Value.ref _, Value.ref _]) _ _ _); k_dflt (refine' my_extend ?zwF ?zwN ?zwU ?zwb ?zwi ?zwj ?zwz ?_; (case zwF => k_asm); (case zwN => k_asm); (case zwb => k_mem); (case zwU => (intro t'; k_upd)); (case zwi => assumption); (case zwj => assumption); (case zwz => (rw [sizeLine_eq]; omega))); intro k' h' F' N' i')
    k_with "call builtin:iter" => (k_here; (with_reducible show wpAny _ _ (call (Value.builtin "iter") [Value.ref _]) _ _ _); k_dflt (refine' my_iter ?zwF ?zwN ?zwm ?_; (case zwF => k_asm); (case zwN => k_asm); (case zwm => k_mem)); intro I' h' F' N' l1; (try k_lt l1))
    k_with "call builtin:next" => (k_here; (with_reducible show wpAny _ _ (call (Value.builtin "next") [Value.ref _]) _ _ _); first | (k_dflt (refine' my_next ?zwF ?zwN ?zwU ?zwm ?zwx ?_; (case zwF => k_asm); (case zwN => k_asm); (case zwU => k_upd); (case zwm => k_mem); (case zwx => assumption)); intro h' F' N') | (k_dflt (refine' my_next_end ?zwhh ?zwF ?zwN ?zwU ?zwm ?zwx ?_; (case zwhh => rfl); (case zwF => k_asm); (case zwN => k_asm); (case zwU => k_upd); (case zwm => k_mem); (case zwx => assumption)); intro h2' h' e' F' N' x'))
    k_with "exec For Name Name cons nil" => (k_here; (rename Fr _ _ _ _ => lF'); (with_unfolding_all refine' For_invVF lF' ?zwk1 ?zwk2 ?_; (case zwk1 => exact rfl); (case zwk2 => exact rfl); k_whole))
    k_with "call builtin:list.pop" => (k_here; (show wpAny _ _ (call (Value.builtin _) [Value.ref _]) _ _ _); k_dflt (refine' my_pop ?zwF ?zwN ?zwU ?zwz ?_; (case zwF => k_asm); (case zwN => k_asm); (case zwU => k_upd); (case zwz => assumption)); intro h' F' N')
    k_with "getItem ref int" => (k_here; k_dflt (refine' my_last ?zwN ?zwm ?_; (case zwN => k_asm); (case zwm => k_mem)))
    k_with "setItem ref int" => (k_here; k_dflt (refine' my_setLast ?zwF ?zwN ?zwU ?_; (case zwF => k_asm); (case zwN => k_asm); (case zwU => k_upd)); intro h' F' N')
    k_with "setItem ref str int" => (k_here; k_dflt (refine' kdp_setItem ?zwF ?zwN ?zwU ?zwd ?zwf ?zwc ?_; (case zwF => k_asm); (case zwN => k_asm); (case zwU => k_updF); (case zwd => assumption); (case zwf => assumption); (case zwc => assumption)); intro h' o' kvs' F' N' d' f')
    k_with "KswEnd" => refine Stop.mk ?_
    k_with "ite" => first | (refine ite_yes (decide_eq_true (by omega)) ?_) | (refine ite_no (decide_eq_false (by omega)) ?_)
    k_with "inplaceOp LShift int int" => refine ilshift_int_small (by decide) (by decide) (by omega) ?_
    k_with "WhlIf" => first | (refine WhlIf.yes (bne_iff_ne.mpr (by assumption)) ?_) | (refine WhlIf.no (bne_eq_false_iff_eq.mpr (by assumption)) ?_)
    k_with "exec While BinOp cons nil" => refine whl_start 4 ?_
    k_with "exec While Constant cons nil" => refine Stop.mk ?_
    k_with "call ref" => (refine wpAny_call ?_; k_dflt (refine' code_def ?k1 ?k2 ?k3 ?k4 ?k5 ?kA ?kF ?kK ?k6 ?k7 ?k8 ?k9 ?kB ?_ ?c2 ?c3 ?c4 ?c5; (case kA => exact rfl); (case kF => exact rfl); (case kK => exact rfl); (case k1 => k_asm); (case k2 => k_asm); (case k3 => k_asm); (case k4 => k_asm); (case k5 => k_asm); (case k6 => k_is); (case k7 => k_is); (case k8 => ktr_room); (case k9 => exact BindsTo.of_eq rfl); (case c5 => decide); (case kB => exact locs rfl); (case c2 => exact rfl); (case c3 => exact rfl); (case c4 => exact rfl); k_whole; intro g' L' h' FG' F' N' B' X' T'; (try dsimp only); (try k_fold)))
    k_steps
    rename News h₀ _ _ _ => nE
    dsimp only at nE
    rw [hxs, List.append_nil, hrun] at hfin
    cases hfin
    exact end1 hret (by assumption) nE List.mem_cons_self (by walk_at "sub") (by walk_at "lt") ⟨_, _, rfl, rfl, by assumption, _, hD1, hD2⟩
  | cons x post =>
    have hx9 := hx x (by rw [hxs]; simp)
    have hl9 := congrArg List.length hxs
    simp only [List.length_append, List.length_cons] at hl9
    have t1 := tInv.1
    have t2 := tInv.2.1
    have t3 := tInv.2.2.1
    have t4 := tInv.2.2.2
    dsimp only at t1 t2 t3 t4
    have cl9 : cc.length ≤ 16777216 := by omega
    obtain ⟨st9, hs9, hr9⟩ := run_next hrun (hxs ▸ hfin)
    have el : ((pre ++ [x]).flatMap octF).length = (pre.flatMap octF).length + (octF x).length := by rw [List.flatMap_append, List.length_append]; simp
    rcases (show x = 0 ∨ (0 < x ∧ x < 256) ∨ 256 ≤ x by omega) with c0 | ⟨c0, c1⟩ | c0
    · obtain ⟨p9, q9, m9, res9, e9, hn9, rfl⟩ := step_zero (c0 ▸ hs9)
      dsimp only at e9 hr9
      subst e9
      obtain ⟨v1, tm9, rfl, i1⟩ := ints_snoc hD3
      obtain ⟨v2, tq9, rfl, i2⟩ := ints_snoc i1
      have l1 := IntsAre.length i1
      simp only [List.length_append, List.length_cons, List.length_nil] at t3 l1
      have z9 : (v2 ++ [Value.int q9 tq9]).length + 1 ≤ sizeLine := by
        rw [sizeLine_eq]
        simp only [List.length_append, List.length_cons, List.length_nil]
        omega
      have m90 : 0 ≤ m9 := t1 m9 (by simp)
      have m91 : m9 ≤ 4000 := by
        have h1 := mem_le_sum t1 (v := m9) (by simp)
        omega
      k_with_none
      k_with "call builtin:list.extend" => (k_here; (with_reducible show wpAny _ _ (call (Value.builtin _) [Value.ref _, Value.ref _]) _ _ _); k_dflt (refine' my_extend ?zwF ?zwN ?zwU ?zwb ?zwi ?zwj ?zwz ?_; (case zwF => k_asm); (case zwN => k_asm); (case zwb => k_mem); (case zwU => (intro t'; k_upd)); (case zwi => assumption); (case zwj => assumption); (case zwz => (rw [sizeLine_eq]; omega))); intro k' h' F' N' i')
      k_with "call builtin:iter" => (k_here; (with_reducible show wpAny _ _ (call (Value.builtin "iter") [Value.ref _]) _ _ _); k_dflt (refine' my_iter ?zwF ?zwN ?zwm ?_; (case zwF => k_asm); (case zwN => k_asm); (case zwm => k_mem)); intro I' h' F' N' l1; (try k_lt l1))
      k_with "call builtin:next" => (k_here; (with_reducible show wpAny _ _ (call (Value.builtin "next") [Value.ref _]) _ _ _); first | (k_dflt (refine' my_next ?zwF ?zwN ?zwU ?zwm ?zwx ?_; (case zwF => k_asm); (case zwN => k_asm); (case zwU => k_upd); (case zwm => k_mem); (case zwx => assumption)); intro h' F' N') | (k_dflt (refine' my_next_end ?zwhh ?zwF ?zwN ?zwU ?zwm ?zwx ?_; (case zwhh => rfl); (case zwF => k_asm); (case zwN => k_asm); (case zwU => k_upd); (case zwm => k_mem); (case zwx => assumption)); intro h2' h' e' F' N' x'))
      k_with "exec For Name Name cons nil" => (k_here; (rename Fr _ _ _ _ => lF'); (with_unfolding_all refine' For_invVF lF' ?zwk1 ?zwk2 ?_; (case zwk1 => exact rfl); (case zwk2 => exact rfl); k_whole))
      k_with "call builtin:list.pop" => (k_here; (show wpAny _ _ (call (Value.builtin _) [Value.ref _]) _ _ _); k_dflt (refine' my_pop ?zwF ?zwN ?zwU ?zwz ?_; (case zwF => k_asm); (case zwN => k_asm); (case zwU => k_upd); (case zwz => assumption)); intro h' F' N')
      k_with "getItem ref int" => (k_here; k_dflt (refine' my_last ?zwN ?zwm ?_; (case zwN => k_asm); (case zwm => k_mem)))
      k_with "setItem ref int" => (k_here; k_dflt (refine' my_setLast ?zwF ?zwN ?zwU ?_; (case zwF => k_asm); (case zwN => k_asm); (case zwU => k_upd)); intro h' F' N')
      k_with "setItem ref str int" => (k_here; k_dflt (refine' kdp_setItem ?zwF ?zwN ?zwU ?zwd ?zwf ?zwc ?_; (case zwF => k_asm); (case zwN => k_asm); (case zwU => k_updF); (case zwd => assumption); (case zwf => assumption); (case zwc => assumption)); intro h' o' kvs' F' N' d' f')
      k_with "KswEnd" => refine Stop.mk ?_
      k_with "ite" => first | (refine ite_yes (decide_eq_true (by omega)) ?_) | (refine ite_no (decide_eq_false (by omega)) ?_)
      k_with "inplaceOp LShift int int" => refine ilshift_int_small (by decide) (by decide) (by omega) ?_
      k_with "WhlIf" => first | (refine WhlIf.yes (bne_iff_ne.mpr (by assumption)) ?_) | (refine WhlIf.no (bne_eq_false_iff_eq.mpr (by assumption)) ?_)
      k_with "exec While BinOp cons nil" => refine whl_start 4 ?_
      k_with "exec While Constant cons nil" => refine Stop.mk ?_
      k_with "call ref" => (refine wpAny_call ?_; k_dflt (refine' code_def ?k1 ?k2 ?k3 ?k4 ?k5 ?kA ?kF ?kK ?k6 ?k7 ?k8 ?k9 ?kB ?_ ?c2 ?c3 ?c4 ?c5; (case kA => exact rfl); (case kF => exact rfl); (case kK => exact rfl); (case k1 => k_asm); (case k2 => k_asm); (case k3 => k_asm); (case k4 => k_asm); (case k5 => k_asm); (case k6 => k_is); (case k7 => k_is); (case k8 => ktr_room); (case k9 => exact BindsTo.of_eq rfl); (case c5 => decide); (case kB => exact locs rfl); (case c2 => exact rfl); (case c3 => exact rfl); (case c4 => exact rfl); k_whole; intro g' L' h' FG' F' N' B' X' T'; (try dsimp only); (try k_fold)))
      k_with "call ref" => (k_dflt (refine' Spec.use (c_pretty w mean mg mb _ _ res9 hn9 (nlF_size hn9)) ?k1 ?k2 ?k3 ?k4 ?k5 ?k6 ?k7 ?k8 ?k9 ?_); (case k1 => k_asm); (case k2 => k_asm); (case k3 => k_asm); (case k4 => k_asm); (case k5 => k_asm); (case k6 => exact rfl); (case k7 => exact trivial); (case k8 => ktr_room); (case k9 => ktr_units); intro r9 tl9 h9 tk9 F9 N9 g9 p9; obtain ⟨t9, rfl, rfl⟩ := p9; clear g9; simp only [List.nil_append] at N9; (try dsimp only); (try k_fold))
      k_with "call ref" => ((with_reducible show wpAny _ _ (call (Value.ref 29) _) _ _ _); k_dflt (refine' c_varint4 w mean mg mb hx9.1 hx9.2 ?vd ?vp ?vt ?vb ?vo ?k1 ?k2 ?k3 ?k4 ?k5 ?k6 ?k8 ?k9 ?_; (case k1 => k_asm); (case k2 => k_asm); (case k3 => k_asm); (case k4 => k_asm); (case k5 => k_asm); (case k6 => exact rfl); (case k8 => ktr_room); (case k9 => ktr_units); (case vd => k_ne); (case vp => k_ne); (case vt => k_ne); (case vo => k_all); (case vb => exact fun j b hb => tape_val hTp hxs j hb); intro u9 h9 tk9 F9 N9; (try dsimp only); (try k_fold)))
      k_steps
      refine Stop.go ?_
      rename News gT _ _ _ => nE
      exact ksw_end ⟨pre ++ [x], post, _, _, p9 ++ [q9 + m9], _, _, _⟩ (by assumption) nE (by dsimp only; rw [el]; exact fun p hp => hp) ⟨by assumption, by assumption, i2.append (.cons _ _ .nil)⟩ (fun _ h => nomatch h) (by ksw_same) ⟨by rw [hxs]; simp, hr9⟩ (by simp)
    · obtain ⟨p9, q9, e9, rfl⟩ := step_leaf hs9 (by omega) (by omega)
      dsimp only at e9 hr9
      subst e9
      obtain ⟨v2, tq9, rfl, i2⟩ := ints_snoc hD3
      k_with_none
      k_with "call builtin:list.extend" => (k_here; (with_reducible show wpAny _ _ (call (Value.builtin _) [Value.ref _, Value.ref _]) _ _ _); k_dflt (refine' my_extend ?zwF ?zwN ?zwU ?zwb ?zwi ?zwj ?zwz ?_; (case zwF => k_asm); (case zwN => k_asm); (case zwb => k_mem); (case zwU => (intro t'; k_upd)); (case zwi => assumption); (case zwj => assumption); (case zwz => (rw [sizeLine_eq]; omega))); intro k' h' F' N' i')
      k_with "call builtin:iter" => (k_here; (with_reducible show wpAny _ _ (call (Value.builtin "iter") [Value.ref _]) _ _ _); k_dflt (refine' my_iter ?zwF ?zwN ?zwm ?_; (case zwF => k_asm); (case zwN => k_asm); (case zwm => k_mem)); intro I' h' F' N' l1; (try k_lt l1))
      k_with "call builtin:next" => (k_here; (with_reducible show wpAny _ _ (call (Value.builtin "next") [Value.ref _]) _ _ _); first | (k_dflt (refine' my_next ?zwF ?zwN ?zwU ?zwm ?zwx ?_; (case zwF => k_asm); (case zwN => k_asm); (case zwU => k_upd); (case zwm => k_mem); (case zwx => assumption)); intro h' F' N') | (k_dflt (refine' my_next_end ?zwhh ?zwF ?zwN ?zwU ?zwm ?zwx ?_; (case zwhh => rfl); (case zwF => k_asm); (case zwN => k_asm); (case zwU => k_upd); (case zwm => k_mem); (case zwx => assumption)); intro h2' h' e' F' N' x'))
      k_with "exec For Name Name cons nil" => (k_here; (rename Fr _ _ _ _ => lF'); (with_unfolding_all refine' For_invVF lF' ?zwk1 ?zwk2 ?_; (case zwk1 => exact rfl); (case zwk2 => exact rfl); k_whole))
      k_with "call builtin:list.pop" => (k_here; (show wpAny _ _ (call (Value.builtin _) [Value.ref _]) _ _ _); k_dflt (refine' my_pop ?zwF ?zwN ?zwU ?zwz ?_; (case zwF => k_asm); (case zwN => k_asm); (case zwU => k_upd); (case zwz => assumption)); intro h' F' N')
      k_with "getItem ref int" => (k_here; k_dflt (refine' my_last ?zwN ?zwm ?_; (case zwN => k_asm); (case zwm => k_mem)))
      k_with "setItem ref int" => (k_here; k_dflt (refine' my_setLast ?zwF ?zwN ?zwU ?_; (case zwF => k_asm); (case zwN => k_asm); (case zwU => k_upd)); intro h' F' N')
      k_with "setItem ref str int" => (k_here; k_dflt (refine' kdp_setItem ?zwF ?zwN ?zwU ?zwd ?zwf ?zwc ?_; (case zwF => k_asm); (case zwN => k_asm); (case zwU => k_updF); (case zwd => assumption); (case zwf => assumption); (case zwc => assumption)); intro h' o' kvs' F' N' d' f')
      k_with "KswEnd" => refine Stop.mk ?_
      k_with "ite" => first | (refine ite_yes (decide_eq_true (by omega)) ?_) | (refine ite_no (decide_eq_false (by omega)) ?_)
      k_with "inplaceOp LShift int int" => refine ilshift_int_small (by decide) (by decide) (by omega) ?_
      k_with "WhlIf" => first | (refine WhlIf.yes (bne_iff_ne.mpr (by assumption)) ?_) | (refine WhlIf.no (bne_eq_false_iff_eq.mpr (by assumption)) ?_)
      k_with "exec While BinOp cons nil" => refine whl_start 4 ?_
      k_with "exec While Constant cons nil" => refine Stop.mk ?_
      k_with "call ref" => (refine wpAny_call ?_; k_dflt (refine' code_def ?k1 ?k2 ?k3 ?k4 ?k5 ?kA ?kF ?kK ?k6 ?k7 ?k8 ?k9 ?kB ?_ ?c2 ?c3 ?c4 ?c5; (case kA => exact rfl); (case kF => exact rfl); (case kK => exact rfl); (case k1 => k_asm); (case k2 => k_asm); (case k3 => k_asm); (case k4 => k_asm); (case k5 => k_asm); (case k6 => k_is); (case k7 => k_is); (case k8 => ktr_room); (case k9 => exact BindsTo.of_eq rfl); (case c5 => decide); (case kB => exact locs rfl); (case c2 => exact rfl); (case c3 => exact rfl); (case c4 => exact rfl); k_whole; intro g' L' h' FG' F' N' B' X' T'; (try dsimp only); (try k_fold)))
      k_with "call ref" => ((with_reducible show wpAny _ _ (call (Value.ref 29) _) _ _ _); k_dflt (refine' c_varint4 w mean mg mb hx9.1 hx9.2 ?vd ?vp ?vt ?vb ?vo ?k1 ?k2 ?k3 ?k4 ?k5 ?k6 ?k8 ?k9 ?_; (case k1 => k_asm); (case k2 => k_asm); (case k3 => k_asm); (case k4 => k_asm); (case k5 => k_asm); (case k6 => exact rfl); (case k8 => ktr_room); (case k9 => ktr_units); (case vd => k_ne); (case vp => k_ne); (case vt => k_ne); (case vo => k_all); (case vb => exact fun j b hb => tape_val hTp hxs j hb); intro u9 h9 tk9 F9 N9; (try dsimp only); (try k_fold)))
      k_steps
      refine Stop.go ?_
      rename News gT _ _ _ => nE
      exact ksw_end ⟨pre ++ [x], post, _, _, p9 ++ [q9 + 2 ^ ((255 - x).fmod 4).toNat], _, _, cc⟩ (by assumption) nE (by dsimp only; rw [el]; exact fun p hp => hp) ⟨hD1, hD2, i2.append (.cons _ _ .nil)⟩ (fun _ h => nomatch h) (by ksw_same) ⟨by rw [hxs]; simp, hr9⟩ (by simp)
    · have e9 := step_push hs9 (by omega)
      subst e9
      dsimp only at hr9
      have l1 := IntsAre.length hD3
      have z9 : vp.length ≤ 600 := by omega
      k_with_none
      k_with "call builtin:list.extend" => (k_here; (with_reducible show wpAny _ _ (call (Value.builtin _) [Value.ref _, Value.ref _]) _ _ _); k_dflt (refine' my_extend ?zwF ?zwN ?zwU ?zwb ?zwi ?zwj ?zwz ?_; (case zwF => k_asm); (case zwN => k_asm); (case zwb => k_mem); (case zwU => (intro t'; k_upd)); (case zwi => assumption); (case zwj => assumption); (case zwz => (rw [sizeLine_eq]; omega))); intro k' h' F' N' i')
      k_with "call builtin:iter" => (k_here; (with_reducible show wpAny _ _ (call (Value.builtin "iter") [Value.ref _]) _ _ _); k_dflt (refine' my_iter ?zwF ?zwN ?zwm ?_; (case zwF => k_asm); (case zwN => k_asm); (case zwm => k_mem)); intro I' h' F' N' l1; (try k_lt l1))
      k_with "call builtin:next" => (k_here; (with_reducible show wpAny _ _ (call (Value.builtin "next") [Value.ref _]) _ _ _); first | (k_dflt (refine' my_next ?zwF ?zwN ?zwU ?zwm ?zwx ?_; (case zwF => k_asm); (case zwN => k_asm); (case zwU => k_upd); (case zwm => k_mem); (case zwx => assumption)); intro h' F' N') | (k_dflt (refine' my_next_end ?zwhh ?zwF ?zwN ?zwU ?zwm ?zwx ?_; (case zwhh => rfl); (case zwF => k_asm); (case zwN => k_asm); (case zwU => k_upd); (case zwm => k_mem); (case zwx => assumption)); intro h2' h' e' F' N' x'))
      k_with "exec For Name Name cons nil" => (k_here; (rename Fr _ _ _ _ => lF'); (with_unfolding_all refine' For_invVF lF' ?zwk1 ?zwk2 ?_; (case zwk1 => exact rfl); (case zwk2 => exact rfl); k_whole))
      k_with "call builtin:list.pop" => (k_here; (show wpAny _ _ (call (Value.builtin _) [Value.ref _]) _ _ _); k_dflt (refine' my_pop ?zwF ?zwN ?zwU ?zwz ?_; (case zwF => k_asm); (case zwN => k_asm); (case zwU => k_upd); (case zwz => assumption)); intro h' F' N')
      k_with "getItem ref int" => (k_here; k_dflt (refine' my_last ?zwN ?zwm ?_; (case zwN => k_asm); (case zwm => k_mem)))
      k_with "setItem ref int" => (k_here; k_dflt (refine' my_setLast ?zwF ?zwN ?zwU ?_; (case zwF => k_asm); (case zwN => k_asm); (case zwU => k_upd)); intro h' F' N')
      k_with "setItem ref str int" => (k_here; k_dflt (refine' kdp_setItem ?zwF ?zwN ?zwU ?zwd ?zwf ?zwc ?_; (case zwF => k_asm); (case zwN => k_asm); (case zwU => k_updF); (case zwd => assumption); (case zwf => assumption); (case zwc => assumption)); intro h' o' kvs' F' N' d' f')
      k_with "KswEnd" => refine Stop.mk ?_
      k_with "ite" => first | (refine ite_yes (decide_eq_true (by omega)) ?_) | (refine ite_no (decide_eq_false (by omega)) ?_)
      k_with "inplaceOp LShift int int" => refine ilshift_int_small (by decide) (by decide) (by omega) ?_
      k_with "WhlIf" => first | (refine WhlIf.yes (bne_iff_ne.mpr (by assumption)) ?_) | (refine WhlIf.no (bne_eq_false_iff_eq.mpr (by assumption)) ?_)
      k_with "exec While BinOp cons nil" => refine whl_start 4 ?_
      k_with "exec While Constant cons nil" => refine Stop.mk ?_
      k_with "call ref" => (refine wpAny_call ?_; k_dflt (refine' code_def ?k1 ?k2 ?k3 ?k4 ?k5 ?kA ?kF ?kK ?k6 ?k7 ?k8 ?k9 ?kB ?_ ?c2 ?c3 ?c4 ?c5; (case kA => exact rfl); (case kF => exact rfl); (case kK => exact rfl); (case k1 => k_asm); (case k2 => k_asm); (case k3 => k_asm); (case k4 => k_asm); (case k5 => k_asm); (case k6 => k_is); (case k7 => k_is); (case k8 => ktr_room); (case k9 => exact BindsTo.of_eq rfl); (case c5 => decide); (case kB => exact locs rfl); (case c2 => exact rfl); (case c3 => exact rfl); (case c4 => exact rfl); k_whole; intro g' L' h' FG' F' N' B' X' T'; (try dsimp only); (try k_fold)))
      k_with "call ref" => ((with_reducible show wpAny _ _ (call (Value.ref 29) _) _ _ _); k_dflt (refine' c_varint4 w mean mg mb hx9.1 hx9.2 ?vd ?vp ?vt ?vb ?vo ?k1 ?k2 ?k3 ?k4 ?k5 ?k6 ?k8 ?k9 ?_; (case k1 => k_asm); (case k2 => k_asm); (case k3 => k_asm); (case k4 => k_asm); (case k5 => k_asm); (case k6 => exact rfl); (case k8 => ktr_room); (case k9 => ktr_units); (case vd => k_ne); (case vp => k_ne); (case vt => k_ne); (case vo => k_all); (case vb => exact fun j b hb => tape_val hTp hxs j hb); intro u9 h9 tk9 F9 N9; (try dsimp only); (try k_fold)))
      k_steps
      refine Stop.go ?_
      rename News gT _ _ _ => nE
      simp only [List.push_toArray] at nE
      exact ksw_end ⟨pre ++ [x], post, _, _, pile ++ [0], _, _, cc⟩ (by assumption) nE (by dsimp only; rw [el]; exact fun p hp => hp) ⟨hD1, hD2, hD3.append (.cons _ _ .nil)⟩ (fun _ h => nomatch h) (by ksw_same) ⟨by rw [hxs]; simp, hr9⟩ (by simp)
end

end
section
open PySem PySem.W PySem.Spec PySem.Calls PyProof.Rows PyProof.Rows.LCg PyProof.Rows.LCt
section
variable {prog : Program} {w : World} {A : Around} {E : Value → Shared → Prop} {s : Shared} {h₀ : Heap} {L : Addr} {m : Str → Option Value} {env : Env} {elt ct : Expr} {x : Str} {scope : Scope} {cl : List (Str × Addr)} {S : List (Addr × Obj) → Prop} {P : Nat → Value → Prop} {Fin : List Value → List (Addr × Obj) → Prop} {n : Nat} {news : List (Addr × Obj)}
theorem CompEnd.mono {I C D : Addr} {oI oC oD : Obj} {s₁ s₂ : Shared} {r r' : Value → List (Addr × Obj) → Prop} {y : Value} (h : CompEnd h₀ L m s₁ I oI C oC D oD S r y s₂) (i : ∀ n, S n → r y n → r' y n) : CompEnd h₀ L m s₁ I oI C oC D oD S r' y s₂ := by
  obtain ⟨h', tk, nw, e, F, N, o, hS, hr⟩ := h
  exact ⟨h', tk, nw, e, F, N, o, hS, i _ hS hr⟩
theorem comp_go (J : Nat → List Value → List (Addr × Obj) → Prop) (fin : ∀ ys nw, J n ys nw → Fin ys nw)
    (step : ∀ i ys nw, i < n → J i ys nw → ∀ v I oI C oC D m₂ h tk (E' : Value → Shared → Prop), P i v → NsObj oC m₂ → m₂ x = some v → Fr h₀ L h m → News h₀ L h ((I, oI) :: (C, oC) :: (D, lst ys) :: nw) → Off3 I C D nw → ((@Ne Nat I C) ∧ (@Ne Nat I D) ∧ (@Ne Nat C D)) →
      wpAny (model prog w) A (eval elt (compEnvC scope cl C env)) (CompEnd h₀ L m { s with heap := h, toks := tk } I oI C oC D (lst ys) S (fun y nw' => J (i + 1) (ys ++ [y]) nw')) E' { s with heap := h, toks := tk }) :
    ∀ k i ys nw, k + i = n → J i ys nw → CompRest prog w A h₀ L m env elt x scope cl s S P Fin k i ys nw
  | 0, i, ys, nw, e, h => by
    obtain rfl : i = n := by omega
    exact CompRest.zero (fin _ _ h)
  | k + 1, i, ys, nw, e, h => CompRest.succ fun v I oI C oC D m₂ hh tk E' a1 a2 a3 a4 a5 a6 a7 =>
    wpAny_mono (step i ys nw (by omega) h v I oI C oC D m₂ hh tk E' a1 a2 a3 a4 a5 a6 a7) (fun y s₂ q => CompEnd.mono q fun n' _ r => comp_go J fin step k (i + 1) (ys ++ [y]) n' (by omega) r) fun _ _ e => e
theorem compT_go (J : Nat → List Value → List (Addr × Obj) → Prop) (fin : ∀ ys nw, J n ys nw → Fin ys nw)
    (step : ∀ i ys nw, i < n → J i ys nw → ∀ v I oI C oC D m₂ h tk (E' : Value → Shared → Prop), P i v → NsObj oC m₂ → m₂ x = some v → Fr h₀ L h m → News h₀ L h ((I, oI) :: (C, oC) :: (D, lst ys) :: nw) → Off3 I C D nw → ((@Ne Nat I C) ∧ (@Ne Nat I D) ∧ (@Ne Nat C D)) →
      wpAny (model prog w) A (isTrue ct (compEnvC scope cl C env) (eval ct (compEnvC scope cl C env))) (fun ok s' => if ok = true then
        wpAny (model prog w) A (eval elt (compEnvC scope cl C env)) (CompEnd h₀ L m { s with heap := h, toks := tk } I oI C oC D (lst ys) S (fun y nw' => J (i + 1) (ys ++ [y]) nw')) E' s'
        else CompEnd h₀ L m { s with heap := h, toks := tk } I oI C oC D (lst ys) S (fun _ nw' => J (i + 1) ys nw') Value.none s') E' { s with heap := h, toks := tk }) :
    ∀ k i ys nw, k + i = n → J i ys nw → CompRestT prog w A h₀ L m env ct elt x scope cl s S P Fin k i ys nw
  | 0, i, ys, nw, e, h => by
    obtain rfl : i = n := by omega
    exact CompRestT.zero (fin _ _ h)
  | k + 1, i, ys, nw, e, h => CompRestT.succ fun v I oI C oC D m₂ hh tk E' a1 a2 a3 a4 a5 a6 a7 =>
    wpAny_mono (step i ys nw (by omega) h v I oI C oC D m₂ hh tk E' a1 a2 a3 a4 a5 a6 a7) (fun ok s₂ q => by
      cases ok with
      | true =>
        simp only [if_true] at q ⊢
        exact wpAny_mono q (fun y s₃ q => CompEnd.mono q fun n' _ r => compT_go J fin step k (i + 1) (ys ++ [y]) n' (by omega) r) fun _ _ e => e
      | false =>
        simp only [Bool.false_eq_true, if_false] at q ⊢
        exact CompEnd.mono q fun n' _ r => compT_go J fin step k (i + 1) ys n' (by omega) r) fun _ _ e => e
/-- a comprehension under a fixed ledger -/
theorem comp_fix (J : Nat → List Value → Prop) (h0 : J 0 []) 
    (step : ∀ i ys, i < n → J i ys → ∀ v I oI C oC D m₂ h tk (E' : Value → Shared → Prop), P i v → NsObj oC m₂ → m₂ x = some v → Fr h₀ L h m → News h₀ L h ((I, oI) :: (C, oC) :: (D, lst ys) :: news) → Off3 I C D news → ((@Ne Nat I C) ∧ (@Ne Nat I D) ∧ (@Ne Nat C D)) →
      wpAny (model prog w) A (eval elt (compEnvC scope cl C env)) (CompEnd h₀ L m { s with heap := h, toks := tk } I oI C oC D (lst ys) S (fun y nw' => nw' = news ∧ J (i + 1) (ys ++ [y]))) E' { s with heap := h, toks := tk })
    (fin : ∀ ys, J n ys → Fin ys news) : CompRest prog w A h₀ L m env elt x scope cl s S P Fin n 0 [] news :=
  comp_go (fun i ys nw => nw = news ∧ J i ys) (fun ys nw ⟨e, h⟩ => e ▸ fin ys h) (by
    rintro i ys nw hi ⟨rfl, hJ⟩ v I oI C oC D m₂ h tk E' a1 a2 a3 a4 a5 a6 a7
    exact step i ys hi hJ v I oI C oC D m₂ h tk E' a1 a2 a3 a4 a5 a6 a7) n 0 [] news (Nat.add_zero n) ⟨rfl, h0⟩
theorem compT_fix (J : Nat → List Value → Prop) (h0 : J 0 []) 
    (step : ∀ i ys, i < n → J i ys → ∀ v I oI C oC D m₂ h tk (E' : Value → Shared → Prop), P i v → NsObj oC m₂ → m₂ x = some v → Fr h₀ L h m → News h₀ L h ((I, oI) :: (C, oC) :: (D, lst ys) :: news) → Off3 I C D news → ((@Ne Nat I C) ∧ (@Ne Nat I D) ∧ (@Ne Nat C D)) →
      wpAny (model prog w) A (isTrue ct (compEnvC scope cl C env) (eval ct (compEnvC scope cl C env))) (fun ok s' => if ok = true then
        wpAny (model prog w) A (eval elt (compEnvC scope cl C env)) (CompEnd h₀ L m { s with heap := h, toks := tk } I oI C oC D (lst ys) S (fun y nw' => nw' = news ∧ J (i + 1) (ys ++ [y]))) E' s'
        else CompEnd h₀ L m { s with heap := h, toks := tk } I oI C oC D (lst ys) S (fun _ nw' => nw' = news ∧ J (i + 1) ys) Value.none s') E' { s with heap := h, toks := tk })
    (fin : ∀ ys, J n ys → Fin ys news) : CompRestT prog w A h₀ L m env ct elt x scope cl s S P Fin n 0 [] news :=
  compT_go (fun i ys nw => nw = news ∧ J i ys) (fun ys nw ⟨e, h⟩ => e ▸ fin ys h) (by
    rintro i ys nw hi ⟨rfl, hJ⟩ v I oI C oC D m₂ h tk E' a1 a2 a3 a4 a5 a6 a7
    exact step i ys hi hJ v I oI C oC D m₂ h tk E' a1 a2 a3 a4 a5 a6 a7) n 0 [] news (Nat.add_zero n) ⟨rfl, h0⟩
theorem comp_end {I C D : Addr} {oI oC oD : Obj} {s₁ : Shared} {h' : Heap} {tk : Nat} {all : List (Addr × Obj)} {J : Value → Prop} {y : Value}
    (F : Fr h₀ L h' m) (N : News h₀ L h' all) (sub : ∀ p ∈ (I, oI) :: (C, oC) :: (D, oD) :: news, p ∈ all) (off : Off3 I C D news) (hS : S news) (hJ : J y) :
    CompEnd h₀ L m s₁ I oI C oC D oD S (fun y nw' => nw' = news ∧ J y) y { s₁ with heap := h', toks := tk } := ⟨h', tk, news, rfl, F, fun p hp => N p (sub p hp), off, hS, rfl, hJ⟩
end
section
variable {prog : Program} {w : World} {A : Around} {E : Value → Shared → Prop} {s : Shared} {env : Env} {h₀ : Heap} {x : Str} {body : List Stmt} {Q : Flow → Shared → Prop}
theorem UnrEnd.mono {L I : Addr} {it : Obj} {s₁ s₂ : Shared} {r r' : (Str → Option Value) → List (Addr × Obj) → Prop} (h : UnrEnd h₀ L s₁ I it r s₂) (i : ∀ m n, r m n → r' m n) : UnrEnd h₀ L s₁ I it r' s₂ := by
  obtain ⟨h', tk, m', nw, e, F, N, o, hr⟩ := h
  exact ⟨h', tk, m', nw, e, F, N, o, i _ _ hr⟩
theorem UnrPost.mono {L I : Addr} {it : Obj} {s₁ s₂ : Shared} {r r' : (Str → Option Value) → List (Addr × Obj) → Prop} {f : Flow} (h : UnrPost h₀ L s₁ I it r Q f s₂) (i : ∀ m n, r m n → r' m n) : UnrPost h₀ L s₁ I it r' Q f s₂ := by
  cases f with
  | ret v => exact h
  | brk => exact h
  | next => exact UnrEnd.mono h i
  | cont => exact UnrEnd.mono h i
/-- a loop over a list of the ledger, by an invariant -/
theorem list_go {I : Addr} {lp : Addr × Obj} (J : List Value → (Str → Option Value) → List (Addr × Obj) → Prop)
    (fin : ∀ m nw, J [] m nw → ∀ h tk, Fr h₀ env.locals h m → News h₀ env.locals h nw → Q .next { s with heap := h, toks := tk })
    (step : ∀ v r m nw, J (v :: r) m nw → ∀ (it : Obj) h tk, it.cls = .type "list_iterator" → Fr h₀ env.locals h (fun y => if y = x then some v else m y) → News h₀ env.locals h ((I, it) :: nw) →
      wpAny (model prog w) A (execs body env) (UnrPost h₀ env.locals { s with heap := h, toks := tk } I it (fun m' n' => lp ∈ n' ∧ J r m' n') Q) E { s with heap := h, toks := tk }) :
    ∀ r m nw, J r m nw → ListRest prog w A E h₀ env x body Q s I lp r m nw
  | [], m, nw, h => ListRest.zero (fin m nw h)
  | v :: r, m, nw, h => ListRest.succ fun it hh tk a1 a2 a3 => wpAny_mono (step v r m nw h it hh tk a1 a2 a3) (fun f s₂ q => UnrPost.mono q fun m' n' z => ⟨z.1, list_go J fin step r m' n' z.2⟩) fun _ _ e => e
theorem range_go {I : Addr} {a : Int} {n : Nat} (J : Nat → (Str → Option Value) → List (Addr × Obj) → Prop)
    (fin : ∀ m nw, J n m nw → ∀ h tk, Fr h₀ env.locals h m → News h₀ env.locals h nw → Q .next { s with heap := h, toks := tk })
    (step : ∀ i m nw, i < n → J i m nw → ∀ t h tk, Fr h₀ env.locals h (fun y => if y = x then some (.int (a + (i : Int)) t) else m y) → News h₀ env.locals h ((I, itR (a + ((i + 1 : Nat) : Int)) ((n : Int) - ((i + 1 : Nat) : Int))) :: nw) →
      wpAny (model prog w) A (execs body env) (UnrPost h₀ env.locals { s with heap := h, toks := tk } I (itR (a + ((i + 1 : Nat) : Int)) ((n : Int) - ((i + 1 : Nat) : Int))) (J (i + 1)) Q) E { s with heap := h, toks := tk }) :
    ∀ k i m nw, k + i = n → J i m nw → RangeRest prog w A E h₀ env x body Q s I a n k i m nw
  | 0, i, m, nw, e, h => by
    obtain rfl : i = n := by omega
    exact RangeRest.zero (fin m nw h)
  | k + 1, i, m, nw, e, h => RangeRest.succ fun t hh tk a2 a3 => wpAny_mono (step i m nw (by omega) h t hh tk a2 a3) (fun f s₂ q => UnrPost.mono q fun m' n' z => range_go J fin step k (i + 1) m' n' (by omega) z) fun _ _ e => e
end

end
section
open PySem PySem.W PySem.Spec PySem.Calls PyProof.Rows PyProof.Rows.LCg PyProof.Rows.LCt
theorem news_tl {h₀ h : Heap} {L : Addr} {p : Addr × Obj} {l : List (Addr × Obj)} (N : News h₀ L h (p :: l)) : News h₀ L h l := fun q hq => N q (.tail _ hq)
theorem off_cons {I a : Addr} {o : Obj} {l : List (Addr × Obj)} (h : @Ne Nat a I) (r : ∀ p ∈ l, @Ne Nat p.1 I) : ∀ p ∈ (a, o) :: l, @Ne Nat p.1 I := fun p hp => by
  rcases List.mem_cons.mp hp with rfl | hp
  · exact h
  · exact r p hp
theorem off_all {I : Addr} {l : List (Addr × Obj)} (h : ∀ p ∈ l, p.1 < I) : ∀ p ∈ l, @Ne Nat p.1 I := fun p hp => Nat.ne_of_lt (h p hp)
theorem unr_end {h₀ : Heap} {L I : Addr} {it : Obj} {rest : (Str → Option Value) → List (Addr × Obj) → Prop} {s₁ : Shared} {h' : Heap} {tk : Nat} {m' : Str → Option Value} {l : List (Addr × Obj)}
    (F : Fr h₀ L h' m') (N : News h₀ L h' ((I, it) :: l)) (off : ∀ p ∈ l, @Ne Nat p.1 I) (r : rest m' l) : UnrEnd h₀ L s₁ I it rest { s₁ with heap := h', toks := tk } := ⟨h', tk, m', l, rfl, F, N, off, r⟩
theorem ints_item {vs : List Value} {ns : List Int} (h : IntsAre vs ns) {i : Nat} {v : Value} (hv : vs.toArray[i]? = some v) : ∃ n t, ns[i]? = some n ∧ v = .int n t := by
  induction h generalizing i with
  | nil => simp at hv
  | cons n t h ih =>
    cases i with
    | zero => simp at hv; exact ⟨n, t, rfl, hv.symm⟩
    | succ i => exact ih (i := i) (by simpa using hv)
theorem take_snoc {α : Type} {l : List α} {i : Nat} {a : α} (h : l[i]? = some a) : l.take (i + 1) = l.take i ++ [a] := by
  rw [List.take_add_one, h]; rfl
end
local macro_rules | `(tactic| walk_at "offs") => `(tactic| repeat (first | exact off_all (by walk_at "lt") | refine off_cons (by k_ne) ?_))
section
open PySem PySem.W PySem.Spec PySem.Calls PyProof.Rows PyProof.Rows.LCg PyProof.Rows.LCt

end
section
open PySem PySem.W PySem.Spec PySem.Calls PyProof.Rows PyProof.Rows.LCg PyProof.Rows.LCt
theorem sub_l {l t : List (Addr × Obj)} : ∀ p ∈ l, p ∈ l ++ t := fun _ h => List.mem_append.mpr (.inl h)
theorem sub_r {l t : List (Addr × Obj)} : ∀ p ∈ t, p ∈ l ++ t := fun _ h => List.mem_append.mpr (.inr h)
theorem sub_cons {x : Addr × Obj} {l l' : List (Addr × Obj)} (h : x ∈ l') (r : ∀ p ∈ l, p ∈ l') : ∀ p ∈ x :: l, p ∈ l' := List.forall_mem_cons.mpr ⟨h, r⟩
end
local macro_rules | `(tactic| walk_at "subs") => `(tactic| ((try dsimp only); repeat (first | (with_reducible exact sub_refl) | (with_reducible exact sub_l) | (with_reducible exact sub_r) | ((with_reducible refine sub_cons ?_ ?_); (focus (k_mem))) | (with_reducible refine sub_tail ?_) | (with_reducible refine sub_app ?_))))
section
open PySem PySem.W PySem.Spec PySem.Calls PyProof.Rows PyProof.Rows.LCg PyProof.Rows.LCt
section
variable {prog : Program} {w : World} {A : Around} {E : Value → Shared → Prop} {s : Shared} {h₀ : Heap} {L a b l : Addr} {m : Str → Option Value} {news news' : List (Addr × Obj)} {vs us : List Value} {n k : Nat} {ns ms : List Int} {i : Int} {t : Tok} {Q : Value → Shared → Prop}
theorem my_notin (N : News h₀ L s.heap news) (hm : (l, listOf vs.toArray n) ∈ news) (hi : IntsAre vs ns)
    (h : Q (.bool (!(ns.any (· == i)))) s) : wpAny (model prog w) A (compareOp .NotIn (.int i t) (.ref l)) Q E s := notin_list_ints ⟨_, (N _ hm).1, rfl, n, rfl⟩ hi h
theorem my_in (N : News h₀ L s.heap news) (hm : (l, listOf vs.toArray n) ∈ news) (hi : IntsAre vs ns)
    (h : Q (.bool (ns.any (· == i))) s) : wpAny (model prog w) A (compareOp .In (.int i t) (.ref l)) Q E s := in_list_ints ⟨_, (N _ hm).1, rfl, n, rfl⟩ hi h
theorem my_eqInts (N : News h₀ L s.heap news) (hm : (a, listOf vs.toArray n) ∈ news) (hm' : (b, listOf us.toArray k) ∈ news) (hi : IntsAre vs ns) (hi' : IntsAre us ms) (hu : A.units + 64 < cLine)
    (h : Q (.bool (decide (ns = ms))) s) : wpAny (model prog w) A (compareOp .Eq (.ref a) (.ref b)) Q E s := eq_intsK ⟨_, (N _ hm).1, rfl, n, rfl⟩ hi ⟨_, (N _ hm').1, rfl, k, rfl⟩ hi' hu h
end

end
section
open PySem PySem.W PySem.Spec PySem.Calls PyProof.Rows
set_option maxHeartbeats 0
set_option rowWalk.seconds 0
noncomputable def subF (x y : Str) : Int := if (x == y) = true then 0 else if (Txt.lower x == Txt.lower y) = true then 1 else 2
section
theorem c_sub (w : World) (mean : ExcName → Option Value) (mg mb : Str → Option Value) (x y : Str) (t u : Tok) (hx : x.length = 1) (hy : y.length = 1) :
    Spec w mean mg mb 50 1 [Value.str x t, Value.str y u] (fun news => True) (fun tl r => tl = [] ∧ ∃ t, r = Value.int (subF x y) t) := by
  w_top off
  k_with_none
  k_with "call builtin:list.extend" => (k_here; (with_reducible show wpAny _ _ (call (Value.builtin _) [Value.ref _, Value.ref _]) _ _ _); k_dflt (refine' my_extend ?zwF ?zwN ?zwU ?zwb ?zwi ?zwj ?zwz ?_; (case zwF => k_asm); (case zwN => k_asm); (case zwb => k_mem); (case zwU => (intro t'; k_upd)); (case zwi => assumption); (case zwj => assumption); (case zwz => (rw [sizeLine_eq]; omega))); intro k' h' F' N' i')
  k_with "call builtin:iter" => (k_here; (with_reducible show wpAny _ _ (call (Value.builtin "iter") [Value.ref _]) _ _ _); k_dflt (refine' my_iter ?zwF ?zwN ?zwm ?_; (case zwF => k_asm); (case zwN => k_asm); (case zwm => k_mem)); intro I' h' F' N' l1; (try k_lt l1))
  have : (Challenge.rw_rs0060_01 = Challenge.rw_rs0060_01 ∧ Mine.hd.heap_39 = Mine.hd.heap_39) := by k_fill; exact ⟨rfl, rfl⟩
  clear this
  have kMark := kstMark
  intro dp un gd cn cs a ccd cl outer A₀ base h₀ L m news s Q E B F X N T hk hP hdp hun hret
  refine wpAny_call ?_
  k_dflt ktr_enter
  k_with_none
  k_with "call builtin:list.extend" => (k_here; (with_reducible show wpAny _ _ (call (Value.builtin _) [Value.ref _, Value.ref _]) _ _ _); k_dflt (refine' my_extend ?zwF ?zwN ?zwU ?zwb ?zwi ?zwj ?zwz ?_; (case zwF => k_asm); (case zwN => k_asm); (case zwb => k_mem); (case zwU => (intro t'; k_upd)); (case zwi => assumption); (case zwj => assumption); (case zwz => (rw [sizeLine_eq]; omega))); intro k' h' F' N' i')
  k_with "call builtin:iter" => (k_here; (with_reducible show wpAny _ _ (call (Value.builtin "iter") [Value.ref _]) _ _ _); k_dflt (refine' my_iter ?zwF ?zwN ?zwm ?_; (case zwF => k_asm); (case zwN => k_asm); (case zwm => k_mem)); intro I' h' F' N' l1; (try k_lt l1))
  k_steps
  all_goals (rename News h₀ _ _ _ => nE; refine end0 hret (by assumption) nE (by walk_at "sub") ⟨rfl, ?_⟩)
  · rename (x == y) = true => e
    exact ⟨_, by rw [subF, if_pos e]⟩
  · rename (x == y) = false => e
    rename (Txt.lower x == Txt.lower y) = true => e2
    exact ⟨_, by rw [subF, if_neg (by rw [e]; exact Bool.false_ne_true), if_pos e2]⟩
  · rename (x == y) = false => e
    rename (Txt.lower x == Txt.lower y) = false => e2
    exact ⟨_, by rw [subF, if_neg (by rw [e]; exact Bool.false_ne_true), if_neg (by rw [e2]; exact Bool.false_ne_true)]⟩
end

end
section
open PySem PySem.W PySem.Spec PySem.Calls PyProof.Rows PyProof.Rows.LCg PyProof.Rows.LCt
set_option maxHeartbeats 0
set_option rowWalk.seconds 0
noncomputable def tabF : List Int := [3, 5, 6, 9, 10, 12, 7, 11, 13, 14, 15]
noncomputable def badF (mask one : Int) : Bool := !([0, one, mask].any fun x => x == Builtin.bitAnd one mask)
noncomputable def treeStep (t : List Int) (fig : Int) : List Int := if ¬ (t.any (· == tabF.getD fig.toNat 0)) = true ∧ t.filter (badF (tabF.getD fig.toNat 0)) = [] then t ++ [tabF.getD fig.toNat 0] else t
noncomputable def treeF (n : Int) : List Int := [n.fmod 11, (n.fdiv 11).fmod 11].foldl treeStep [15]
section
theorem c_tree (w : World) (mean : ExcName → Option Value) (mg mb : Str → Option Value) (n : Int) (t : Tok) (hn : 0 ≤ n) :
    Spec w mean mg mb 67 9 [Value.int n t] (fun _ => True) (fun tl r => ∃ a vs k, r = .ref a ∧ tl = [(a, listOf vs.toArray k)] ∧ IntsAre vs (treeF n)) := by
  w_top off
  k_with_none
  k_with "call builtin:list.extend" => (k_here; (with_reducible show wpAny _ _ (call (Value.builtin _) [Value.ref _, Value.ref _]) _ _ _); k_dflt (refine' my_extend ?zwF ?zwN ?zwU ?zwb ?zwi ?zwj ?zwz ?_; (case zwF => k_asm); (case zwN => k_asm); (case zwb => k_mem); (case zwU => (intro t'; k_upd)); (case zwi => assumption); (case zwj => assumption); (case zwz => (rw [sizeLine_eq]; omega))); intro k' h' F' N' i')
  k_with "call builtin:iter" => (k_here; (with_reducible show wpAny _ _ (call (Value.builtin "iter") [Value.ref _]) _ _ _); k_dflt (refine' my_iter ?zwF ?zwN ?zwm ?_; (case zwF => k_asm); (case zwN => k_asm); (case zwm => k_mem)); intro I' h' F' N' l1; (try k_lt l1))
  k_with "exec For Name List cons nil" => (k_here; (rename Fr _ _ _ _ => lF'); (with_unfolding_all refine' For_invVF lF' ?zwk1 ?zwk2 ?_; (case zwk1 => exact rfl); (case zwk2 => exact rfl); k_whole))
  k_with "pyIter ref" => refine Stop.mk ?_
  k_with "subscriptTail" => (k_here; (with_reducible show wpAny _ _ (subscriptTail _ _ (Value.ref _) (Value.int _ _)) _ _ _); k_dflt (refine' ksa_sub ?zwk1 ?zwk2 ?zwk3 ?zwk4 ?zwk5 ?zwk6 ?_ ?zwk7; (case zwk1 => k_asm); (case zwk2 => k_mem); (case zwk3 => exact .cons _ _ (.cons _ _ (.cons _ _ (.cons _ _ (.cons _ _ (.cons _ _ (.cons _ _ (.cons _ _ (.cons _ _ (.cons _ _ (.cons _ _ .nil))))))))))); (case zwk4 => omega); (case zwk5 => (simp only [List.length_cons, List.length_nil]; omega)); (case zwk6 => omega); (case zwk7 => with_unfolding_all rfl); k_whole); intro _)
  k_with "compareOp NotIn int ref" => (k_here; k_dflt (refine' my_notin ?zwN ?zwm ?zwi ?_; (case zwN => k_asm); (case zwm => k_mem); (case zwi => first | assumption | exact .cons _ _ (.cons _ _ (.cons _ _ .nil)))))
  k_with "compareOp Eq ref ref" => (k_here; k_dflt (refine' my_eqInts ?zwN ?zwm1 ?zwm2 ?zwi1 ?zwi2 ?zwu ?_; (case zwN => k_asm); (case zwm1 => k_mem); (case zwm2 => k_mem); (case zwi1 => assumption); (case zwi2 => exact .nil); (case zwu => ktr_units)))
  k_with "CompSrcT" => refine Stop.mk ?_
  k_with "InvEndN" => refine Stop.mk ?_
  have : (Challenge.rw_rs0060_01 = Challenge.rw_rs0060_01 ∧ Mine.hd.heap_39 = Mine.hd.heap_39) := by k_fill; exact ⟨rfl, rfl⟩
  clear this
  have kMark := kstMark
  have q1 : n.fmod 11 = n % 11 := Int.fmod_eq_emod_of_nonneg n (by decide)
  have q2 : (n.fdiv 11).fmod 11 = n / 11 % 11 := by rw [Int.fdiv_eq_ediv_of_nonneg n (by decide), Int.fmod_eq_emod_of_nonneg _ (by decide)]
  have b1 : 0 ≤ n.fmod 11 ∧ n.fmod 11 < 11 := by omega
  have b2 : 0 ≤ (n.fdiv 11).fmod 11 ∧ (n.fdiv 11).fmod 11 < 11 := by omega
  clear q1 q2
  intro dp un gd cn cs a ccd cl outer A₀ base h₀ L m news s Q E B F X N T hk hP hdp hun hret
  refine wpAny_call ?_
  k_dflt (refine' code_defC ?k1 ?k2 ?k3 ?k4 ?k5 ?kA ?kF ?kK ?k6 ?k7 ?k8 ?k9 ?kB ?kD ?_ ?c2 ?c3 ?c4; (case kA => exact rfl); (case kF => exact rfl); (case kK => assumption); (case k1 => k_asm); (case k2 => k_asm); (case k3 => k_asm); (case k4 => k_asm); (case k5 => k_asm); (case k6 => k_is); (case k7 => k_is); (case k8 => ktr_room); (case k9 => exact BindsTo.of_eq rfl); (case kB => exact rfl); (case kD => decide +kernel); (case c2 => exact rfl); (case c3 => exact rfl); (case c4 => exact rfl); k_whole; intro g' L' h' tk' cells' FG' F' N' Y' B' X' T' l1; (try k_lt l1); k_cells Y'; (try simp only [List.cons_append, List.nil_append] at N'); (try dsimp only); (try k_fold))
  have lc1 : ∀ p ∈ news, p.1 < L' + 1 := fun p hp => Nat.lt_succ_of_lt (l1 p hp)
  have lc2 : ∀ p ∈ news, p.1 < L' + 1 + 1 := fun p hp => Nat.lt_succ_of_lt (lc1 p hp)
  have lc3 : ∀ p ∈ news, p.1 < L' + 1 + 1 + 1 := fun p hp => Nat.lt_succ_of_lt (lc2 p hp)
  k_with_none
  k_with "call builtin:list.extend" => (k_here; (with_reducible show wpAny _ _ (call (Value.builtin _) [Value.ref _, Value.ref _]) _ _ _); k_dflt (refine' my_extend ?zwF ?zwN ?zwU ?zwb ?zwi ?zwj ?zwz ?_; (case zwF => k_asm); (case zwN => k_asm); (case zwb => k_mem); (case zwU => (intro t'; k_upd)); (case zwi => assumption); (case zwj => assumption); (case zwz => (rw [sizeLine_eq]; omega))); intro k' h' F' N' i')
  k_with "call builtin:iter" => (k_here; (with_reducible show wpAny _ _ (call (Value.builtin "iter") [Value.ref _]) _ _ _); k_dflt (refine' my_iter ?zwF ?zwN ?zwm ?_; (case zwF => k_asm); (case zwN => k_asm); (case zwm => k_mem)); intro I' h' F' N' l1; (try k_lt l1))
  k_with "exec For Name List cons nil" => (k_here; (rename Fr _ _ _ _ => lF'); (with_unfolding_all refine' For_invVF lF' ?zwk1 ?zwk2 ?_; (case zwk1 => exact rfl); (case zwk2 => exact rfl); k_whole))
  k_with "pyIter ref" => refine Stop.mk ?_
  k_with "subscriptTail" => (k_here; (with_reducible show wpAny _ _ (subscriptTail _ _ (Value.ref _) (Value.int _ _)) _ _ _); k_dflt (refine' ksa_sub ?zwk1 ?zwk2 ?zwk3 ?zwk4 ?zwk5 ?zwk6 ?_ ?zwk7; (case zwk1 => k_asm); (case zwk2 => k_mem); (case zwk3 => exact .cons _ _ (.cons _ _ (.cons _ _ (.cons _ _ (.cons _ _ (.cons _ _ (.cons _ _ (.cons _ _ (.cons _ _ (.cons _ _ (.cons _ _ .nil))))))))))); (case zwk4 => omega); (case zwk5 => (simp only [List.length_cons, List.length_nil]; omega)); (case zwk6 => omega); (case zwk7 => with_unfolding_all rfl); k_whole); intro _)
  k_with "compareOp NotIn int ref" => (k_here; k_dflt (refine' my_notin ?zwN ?zwm ?zwi ?_; (case zwN => k_asm); (case zwm => k_mem); (case zwi => first | assumption | exact .cons _ _ (.cons _ _ (.cons _ _ .nil)))))
  k_with "compareOp Eq ref ref" => (k_here; k_dflt (refine' my_eqInts ?zwN ?zwm1 ?zwm2 ?zwi1 ?zwi2 ?zwu ?_; (case zwN => k_asm); (case zwm1 => k_mem); (case zwm2 => k_mem); (case zwi1 => assumption); (case zwi2 => exact .nil); (case zwu => ktr_units)))
  k_with "CompSrcT" => refine Stop.mk ?_
  k_with "InvEndN" => refine Stop.mk ?_
  k_steps
  refine Stop.go ?_
  k_dflt (refine' kst_listL (σ := List Value × Nat × List Int × Obj) (ns := [n.fmod 11, (n.fdiv 11).fmod 11]) (fun c => (?lf, listOf (List.toArray [Value.int (n.fmod 11) ?t1, Value.int ((n.fdiv 11).fmod 11) ?t2]) ?k0) :: (?lt, listOf c.1.toArray c.2.1) :: (L' + 1, c.2.2.2) :: news) (fun _ => []) (fun c => IntsAre c.1 c.2.2.1 ∧ ∃ v, c.2.2.2.data = .cell v) [] (fun pre c => c.2.2.1 = pre.foldl treeStep [15] ∧ c.2.2.1.length ≤ 1 + pre.length) ([_], 0, [15], _) ?hh ?hl ?hi ?F ?N ?hf ?hk ?hp ?turn ?done)
  (case N => k_asm)
  (case hh => rfl)
  (case hl => exact fun _ => List.mem_cons_self)
  (case hi => exact .cons _ _ (.cons _ _ .nil))
  (case F => k_asm)
  (case hf => exact ⟨.cons _ _ .nil, _, by assumption⟩)
  (case hk => exact fun _ h => nomatch h)
  (case hp => exact ⟨rfl, by simp⟩)
  · intro c pre post kN kT kU kH kTk own kEq kMem kOff kFacts kInv kFr kNews
    obtain ⟨vs9, k9, ns9, o9⟩ := c
    dsimp only [kstB] at kFacts kInv kFr kNews kOff
    simp only [List.cons_append] at kNews
    simp only [List.map_cons] at kOff
    obtain ⟨kI, v9, kC⟩ := kFacts
    obtain ⟨kInv, kLen⟩ := kInv
    have kPl := congrArg List.length kEq
    simp only [List.length_append, List.length_cons, List.length_nil] at kPl
    have kVl := IntsAre.length kI
    have kSz : vs9.toArray.size ≤ sizeLine := by rw [sizeLine_eq, List.size_toArray]; omega
    have hB : 0 ≤ kN ∧ kN < 11 := by
      rcases List.mem_cons.mp kMem with e | e
      · rw [e]; exact b1
      · rw [List.mem_singleton.mp e]; exact b2
    (try dsimp only); (try k_fold)
    k_steps
    · refine Stop.go ?_
      rename News _ _ _ _ => nE
      rename List.any ns9 _ = true => hAny
      have hT : treeStep ns9 kN = ns9 := by unfold treeStep tabF; rw [if_neg (fun h => h.1 hAny)]
      exact kst_end ⟨vs9, k9, ns9, _⟩ (by assumption) nE (by walk_at "subs") (by walk_at "subs") rfl ⟨kI, _, by assumption⟩ (fun _ h => nomatch h) (by kst_same)
        ⟨by rw [List.foldl_append, ← kInv]; exact hT.symm, by dsimp only; simp; omega⟩
    · refine Stop.go ?_
      k_dflt (refine LCt.CompSrcT.ledger (by rfl) (by k_asm) (by k_asm) (by k_mem) kSz ?_)
      intro g9
      refine compT_fix (fun i ys => IntsAre ys ((ns9.take i).filter (badF (tabF.getD kN.toNat 0)))) .nil ?_ ?_
      · intro i9 ys9 hi9 hJ9 v9 I9 oI9 C9 oC9 D9 m9 h9 tk9 E9 hv9 hC9 hx9 F9 N9 off9 ne9
        obtain ⟨o9, t9, e9, rfl⟩ := ints_item kI hv9
        k_steps
        · rename News _ _ _ _ => nE
          refine comp_end (by assumption) nE (by walk_at "sub") off9 (.inr ⟨_, by k_mem, rfl, _, rfl⟩) ?_
          show IntsAre _ _
          rw [take_snoc e9, List.filter_append]
          rename (List.any [0, _, _] _) = true => hAny
          have hb : badF (tabF.getD kN.toNat 0) o9 = false := by unfold badF tabF; rw [hAny]; rfl
          simp only [List.filter_cons, hb, List.filter_nil, List.append_nil, Bool.false_eq_true, if_false]
          exact hJ9
        · rename News _ _ _ _ => nE
          refine comp_end (by assumption) nE (by walk_at "sub") off9 (.inr ⟨_, by k_mem, rfl, _, rfl⟩) ?_
          show IntsAre _ _
          rw [take_snoc e9, List.filter_append]
          rename (List.any [0, _, _] _) = false => hAny
          have hb : badF (tabF.getD kN.toNat 0) o9 = true := by unfold badF tabF; rw [hAny]; rfl
          simp only [List.filter_cons, hb, List.filter_nil, if_true]
          exact hJ9.append (.cons _ _ .nil)
      · intro ys9 hJ9
        rw [show vs9.toArray.size = ns9.length from by rw [List.size_toArray, kVl], List.take_length] at hJ9
        k_steps
        · refine Stop.go ?_
          rename News _ _ _ _ => nE
          rename List.any ns9 _ = false => hAny
          rename decide (_ = []) = true => hEm
          have hT : treeStep ns9 kN = ns9 ++ [[3, 5, 6, 9, 10, 12, 7, 11, 13, 14, 15].getD kN.toNat 0] := by unfold treeStep tabF; rw [if_pos ⟨by rw [hAny]; exact Bool.false_ne_true, of_decide_eq_true hEm⟩]
          simp only [List.push_toArray] at nE
          exact kst_end ⟨vs9 ++ [_], _, ns9 ++ [[3, 5, 6, 9, 10, 12, 7, 11, 13, 14, 15].getD kN.toNat 0], _⟩ (by assumption) nE (by walk_at "subs") (by walk_at "subs") rfl ⟨kI.append (.cons _ _ .nil), _, by assumption⟩ (fun _ h => nomatch h) (by kst_same)
            ⟨by rw [List.foldl_append, ← kInv]; exact hT.symm, by dsimp only; simp; omega⟩
        · refine Stop.go ?_
          rename News _ _ _ _ => nE
          rename decide (_ = []) = false => hEm
          have hT : treeStep ns9 kN = ns9 := by unfold treeStep; rw [if_neg (fun h => of_decide_eq_false hEm h.2)]
          exact kst_end ⟨vs9, k9, ns9, _⟩ (by assumption) nE (by walk_at "subs") (by walk_at "subs") rfl ⟨kI, _, by assumption⟩ (fun _ h => nomatch h) (by kst_same)
            ⟨by rw [List.foldl_append, ← kInv]; exact hT.symm, by dsimp only; simp; omega⟩
  · intro c kU kH kTk kFacts kInv kFr kNews
    obtain ⟨vs9, k9, ns9, o9⟩ := c
    dsimp only [kstB] at kFacts kInv kFr kNews
    k_steps
    rename News h₀ _ _ _ => nE
    dsimp only at nE
    exact end1 hret (by assumption) nE (by k_mem) (by walk_at "sub") (by walk_at "lt") ⟨_, _, _, rfl, rfl, by have := kFacts.1; rw [kInv.1] at this; exact this⟩
end

end
section
open PySem PySem.W PySem.Spec PySem.Calls PyProof.Rows PyProof.Rows.LCg PyProof.Rows.LCt
section
variable {prog : Program} {w : World} {A : Around} {E : Value → Shared → Prop} {s : Shared} {env : Env} {h₀ : Heap} {x : Str} {body : List Stmt} {Q : Flow → Shared → Prop}
/-- a loop over an object of the ledger, by its walk -/
theorem iter_gen {l : Addr} {o it : Obj} {n : Nat} {P : Nat → Value → Prop} {St : Nat → Heap → Prop} {m₀ : Str → Option Value} {news : List (Addr × Obj)} (J : Nat → (Str → Option Value) → List (Addr × Obj) → Prop)
    (W : Walks prog w A s.heap.objs.size [s.heap.objs.size, l] [s.heap.objs.size] n P St) (hl : (l, o) ∈ news) (keep : ∀ i m nx, J i m nx → nx.map (·.1) = news.map (·.1) ∧ (l, o) ∈ nx) (st : St 0 (s.heap.push it))
    (F : Fr h₀ env.locals s.heap m₀) (N : News h₀ env.locals s.heap news) (hj : J 0 m₀ news)
    (turn : ∀ i v m₁ nx h tk own, i < n → P i v → OwnOff own (news.map (·.1)) → J i m₁ nx → Fr h₀ env.locals h (fun y => if y = x then some v else m₁ y) → News h₀ env.locals h (nx ++ own) →
      wpAny (model prog w) A (execs body env) (InvPostN h₀ env.locals (J (i + 1)) own (news.map (·.1)) { s with heap := h, toks := tk } Q) E { s with heap := h, toks := tk })
    (done : ∀ m₁ nx h tk, J n m₁ nx → Fr h₀ env.locals h m₁ → News h₀ env.locals h nx → Q .next { s with heap := h, toks := tk }) :
    LoopAtV prog w A h₀ env x body Q E (.ref s.heap.objs.size) { s with heap := s.heap.push it } := by
  have noI : ∀ nx : List (Addr × Obj), nx.map (·.1) = news.map (·.1) → ∀ p ∈ nx, p.1 ≠ s.heap.objs.size := by
    intro nx e p hp q
    have h1 : p.1 ∈ nx.map (·.1) := List.mem_map_of_mem hp
    rw [e] at h1
    obtain ⟨r, hr, er⟩ := List.mem_map.mp h1
    have := Heap.lt_size (N r hr).1
    rw [er, q] at this
    exact Nat.lt_irrefl _ this
  refine ⟨_, _, _, n, P, St, m₀, news, J, rfl, W, ?_, ?_, ?_, st, F.push _, fun p hp => ⟨Heap.get?_push_of_some _ (N p hp).1, (N p hp).2⟩, hj, ?_, ?_⟩
  · intro hm
    simp only [List.mem_cons, List.not_mem_nil, or_false] at hm
    rcases hm with e | e
    · exact Nat.lt_irrefl _ (e ▸ F.ns.lt)
    · exact (N _ hl).2.1 e.symm
  · intro b hb
    rw [List.mem_singleton.mp hb]
    exact next_is_new F
  · intro p hp hI
    exact noI news rfl p hp (List.mem_singleton.mp hI)
  · rintro i v m₁ nx s₁ own ⟨g, tk, rfl⟩ hi hP hJ hoff hown hget hfp _ F₁ N₁
    obtain ⟨ha, hln⟩ := keep _ _ _ hJ
    have hlo : g.get? l = some o := (N₁ _ (List.mem_append_right _ hln)).1
    have off : OwnOff (own.filter fun p => decide (p.1 = s.heap.objs.size)) (news.map (·.1)) := by
      intro p hp b hb e
      obtain ⟨q, hq, rfl⟩ := List.mem_map.mp hb
      have h1 : p.1 = s.heap.objs.size := by simpa using (List.mem_filter.mp hp).2
      exact noI news rfl q hq (e ▸ h1)
    have N₂ : News h₀ env.locals g (nx ++ own.filter fun p => decide (p.1 = s.heap.objs.size)) := fun p hp => by
      rcases List.mem_append.mp hp with h | h
      · exact N₁ p (List.mem_append_right _ h)
      · exact N₁ p (List.mem_append_left _ (List.mem_filter.mp h).1)
    refine wpAny_mono (turn i v m₁ nx g tk _ hi hP off hJ F₁ N₂) (fun f s₂ p => ?_) fun _ _ e => e
    have fin : InvEndN h₀ env.locals (J (i + 1)) (own.filter fun p => decide (p.1 = s.heap.objs.size)) (news.map (·.1)) { s with heap := g, toks := tk } s₂ →
        LoopStepU h₀ env.locals [s.heap.objs.size] own (J (i + 1)) { s with heap := g, toks := tk } .next s₂ := by
      rintro ⟨h', tk', m', all, nx', e, F', N', hn, ho, ha', hm⟩
      refine ⟨rfl, h', tk', m', nx', e, F', fun p hp => ?_, fun p hp hI => noI nx' ha' p hp (List.mem_singleton.mp hI), hm⟩
      rcases List.mem_append.mp hp with h | h
      · by_cases hI : p.1 = s.heap.objs.size
        · exact N' p (ho p (List.mem_filter.mpr ⟨h, by simpa using hI⟩))
        · have h1 : p.1 = l := by
            have := hown p h
            simp only [List.mem_cons, List.not_mem_nil, or_false] at this
            exact this.resolve_left hI
          have h2 : g.get? p.1 = some p.2 := hget p h
          rw [h1, hlo] at h2
          have h3 : p = (l, o) := Prod.ext h1 (Option.some.inj h2).symm
          rw [h3]
          exact N' _ (hn _ (keep _ _ _ hm).2)
      · exact N' p (hn p h)
    cases f with
    | ret v => exact .ret p
    | brk => exact .brk p
    | next => exact .next (fin p)
    | cont => exact .cont (fin p)
  · intro h' tk m' nx F' N' _ hJ
    exact done m' nx h' tk hJ F' N'
theorem kst_gen {σ : Type} {l : Addr} {o it : Obj} {n : Nat} {IP : Nat → Value → Prop} {St : Nat → Heap → Prop} {m₀ : Str → Option Value} (Led : σ → List (Addr × Obj)) (ps : σ → List (Str × Value)) (Facts : σ → Prop) (stored : List Str) (R : Nat → σ → Prop) (c₀ : σ)
    (W : Walks prog w A s.heap.objs.size [s.heap.objs.size, l] [s.heap.objs.size] n IP St) (hl : ∀ c : σ, (l, o) ∈ Led c) (had : ∀ c : σ, (Led c).map (·.1) = (Led c₀).map (·.1)) (st : St 0 (s.heap.push it))
    (F : Fr h₀ env.locals s.heap m₀) (N : News h₀ env.locals s.heap (Led c₀)) (hf : Facts c₀) (hk : ∀ p ∈ ps c₀, m₀ p.1 = some p.2) (hp : R 0 c₀)
    (turn : ∀ (c : σ) (pre : List Int) v (u : Str → Option Value) h tk own, pre.length < n → IP pre.length v → OwnOff own ((Led c₀).map (·.1)) → Facts c → R pre.length c →
      Fr h₀ env.locals h (fun y => if y = x then some v else kstB (fun z => if stored.contains z then u z else m₀ z) (ps c) y) → News h₀ env.locals h (Led c ++ own) →
      wpAny (model prog w) A (execs body env) (InvPostN h₀ env.locals (KstS Led ps Facts x stored m₀ (fun pre c => R pre.length c) (pre ++ [0])) own ((Led c₀).map (·.1)) { s with heap := h, toks := tk } Q) E { s with heap := h, toks := tk })
    (done : ∀ (c : σ) (u : Str → Option Value) h tk, Facts c → R n c → Fr h₀ env.locals h (fun y => if y = x then u y else kstB (fun z => if stored.contains z then u z else m₀ z) (ps c) y) → News h₀ env.locals h (Led c) → Q .next { s with heap := h, toks := tk }) :
    LoopAtV prog w A h₀ env x body Q E (.ref s.heap.objs.size) { s with heap := s.heap.push it } := by
  refine iter_gen (fun i m nx => KstS Led ps Facts x stored m₀ (fun pre c => R pre.length c) (List.replicate i 0) m nx) W (hl c₀) ?_ st F N ⟨c₀, rfl, hf, hk, fun _ _ _ _ => rfl, hp⟩ ?_ ?_
  · rintro i m nx ⟨c, rfl, _⟩
    exact ⟨had c, hl c⟩
  · rintro i v m₁ nx h tk own hi hv hoff ⟨c, rfl, hf', h1, h2, hp'⟩ F₁ N₁
    have e : List.replicate (i + 1) (0 : Int) = List.replicate i 0 ++ [0] := by rw [List.replicate_succ']
    rw [e]
    have hlen : (List.replicate i (0 : Int)).length = i := List.length_replicate
    exact turn c (List.replicate i 0) v m₁ h tk own (by rw [hlen]; exact hi) (by rw [hlen]; exact hv) hoff hf' hp' (kst_fr h1 h2 F₁) N₁
  · rintro m₁ nx h tk ⟨c, rfl, hf', h1, h2, hp'⟩ F₁ N₁
    exact done c m₁ h tk hf' (by simpa using hp') (kst_frOut h1 h2 F₁) N₁
theorem kst_vals {σ : Type} {l : Addr} {vs : List Value} {k : Nat} {m₀ : Str → Option Value} (Led : σ → List (Addr × Obj)) (ps : σ → List (Str × Value)) (Facts : σ → Prop) (stored : List Str) (R : Nat → σ → Prop) (c₀ : σ)
    (hh : A.handled = none) (hl : ∀ c : σ, (l, listOf vs.toArray k) ∈ Led c) (had : ∀ c : σ, (Led c).map (·.1) = (Led c₀).map (·.1))
    (F : Fr h₀ env.locals s.heap m₀) (N : News h₀ env.locals s.heap (Led c₀)) (hf : Facts c₀) (hk : ∀ p ∈ ps c₀, m₀ p.1 = some p.2) (hp : R 0 c₀)
    (turn : ∀ (c : σ) (pre : List Int) v (u : Str → Option Value) h tk own, pre.length < vs.length → vs[pre.length]? = some v → OwnOff own ((Led c₀).map (·.1)) → Facts c → R pre.length c →
      Fr h₀ env.locals h (fun y => if y = x then some v else kstB (fun z => if stored.contains z then u z else m₀ z) (ps c) y) → News h₀ env.locals h (Led c ++ own) →
      wpAny (model prog w) A (execs body env) (InvPostN h₀ env.locals (KstS Led ps Facts x stored m₀ (fun pre c => R pre.length c) (pre ++ [0])) own ((Led c₀).map (·.1)) { s with heap := h, toks := tk } Q) E { s with heap := h, toks := tk })
    (done : ∀ (c : σ) (u : Str → Option Value) h tk, Facts c → R vs.length c → Fr h₀ env.locals h (fun y => if y = x then u y else kstB (fun z => if stored.contains z then u z else m₀ z) (ps c) y) → News h₀ env.locals h (Led c) → Q .next { s with heap := h, toks := tk }) :
    wpAny (model prog w) A (pyIter (.ref l)) (fun it s₂ => LoopAtV prog w A h₀ env x body Q E it s₂) E s := by
  have hol : s.heap.get? l = some (listOf vs.toArray k) := (N _ (hl c₀)).1
  have hls : s.heap.IsList l vs.toArray := ⟨_, hol, rfl, k, rfl⟩
  refine wpAny_pyIter_list hls ?_
  have W := Walks.list (prog := prog) (w := w) hh s.heap.objs.size l (Nat.ne_of_lt (Heap.lt_size hol)) vs.toArray
  rw [List.size_toArray] at W
  exact kst_gen Led ps Facts stored R c₀ W hl had ⟨⟨_, Heap.get?_push_size _ rfl, rfl, rfl⟩, hls.at fun o e => Heap.get?_push_of_some _ e⟩ F N hf hk hp
    (fun c pre v u h tk own a b => turn c pre v u h tk own a (by simpa using b)) done
theorem kst_keys {σ : Type} {d : Addr} {o : Obj} {kvs : List (Str × Value)} {m₀ : Str → Option Value} (Led : σ → List (Addr × Obj)) (ps : σ → List (Str × Value)) (Facts : σ → Prop) (stored : List Str) (R : Nat → σ → Prop) (c₀ : σ)
    (hh : A.handled = none) (lo : (d == sysModules) = false) (hd : o.IsDictOf (PySem.strKind prog w) kvs) (hl : ∀ c : σ, (d, o) ∈ Led c) (had : ∀ c : σ, (Led c).map (·.1) = (Led c₀).map (·.1))
    (F : Fr h₀ env.locals s.heap m₀) (N : News h₀ env.locals s.heap (Led c₀)) (hf : Facts c₀) (hk : ∀ p ∈ ps c₀, m₀ p.1 = some p.2) (hp : R 0 c₀)
    (turn : ∀ (c : σ) (pre : List Int) y t (u : Str → Option Value) h tk own, pre.length < kvs.length → (∃ v, kvs[pre.length]? = some (y, v)) → OwnOff own ((Led c₀).map (·.1)) → Facts c → R pre.length c →
      Fr h₀ env.locals h (fun z => if z = x then some (.str y t) else kstB (fun z => if stored.contains z then u z else m₀ z) (ps c) z) → News h₀ env.locals h (Led c ++ own) →
      wpAny (model prog w) A (execs body env) (InvPostN h₀ env.locals (KstS Led ps Facts x stored m₀ (fun pre c => R pre.length c) (pre ++ [0])) own ((Led c₀).map (·.1)) { s with heap := h, toks := tk } Q) E { s with heap := h, toks := tk })
    (done : ∀ (c : σ) (u : Str → Option Value) h tk, Facts c → R kvs.length c → Fr h₀ env.locals h (fun y => if y = x then u y else kstB (fun z => if stored.contains z then u z else m₀ z) (ps c) y) → News h₀ env.locals h (Led c) → Q .next { s with heap := h, toks := tk }) :
    wpAny (model prog w) A (pyIter (.ref d)) (fun it s₂ => LoopAtV prog w A h₀ env x body Q E it s₂) E s := by
  obtain ⟨ep, hat⟩ := (kda_dict N (hl c₀) hd).dictAt
  refine wpAny_pyIter_dict lo hat ?_
  have W := Walks.dictKeys (knd := PySem.strKind prog w) hh s.heap.objs.size d (Nat.ne_of_lt hat.lt_size) kvs ep
  exact kst_gen Led ps Facts stored R c₀ W hl had ⟨⟨_, Heap.get?_push_size _ rfl, rfl, rfl⟩, hat.push _⟩ F N hf hk hp
    (fun c pre v u h tk own a b => by
      obtain ⟨y, xv, hx, hkey⟩ := b
      obtain ⟨t, rfl⟩ := Value.isStrOf_shape hkey
      exact turn c pre y t u h tk own a ⟨xv, hx⟩) done
end

end
section
open PySem PySem.W PySem.Spec PySem.Calls PyProof.Rows PyProof.Rows.LCg PyProof.Rows.LCt PyProof.Rows.LSm
set_option maxHeartbeats 0
set_option rowWalk.seconds 0
theorem pick_sub {its : Array Value} {lo hi st : Option Int} {v : Value} (h : v ∈ (slicePick its lo hi st).toList) : v ∈ its.toList := by
  unfold slicePick at h
  obtain ⟨i, _, e⟩ := List.mem_filterMap.mp (by simpa using h)
  exact Array.mem_toList_iff.mpr (Array.mem_of_getElem? e)
theorem ints_mem {vs : List Value} {ns : List Int} (h : IntsAre vs ns) {v : Value} (hv : v ∈ vs) : ∃ n t, n ∈ ns ∧ v = .int n t := by
  induction h with
  | nil => cases hv
  | cons n t h ih =>
    rcases List.mem_cons.mp hv with rfl | hv
    · exact ⟨n, t, .head _, rfl⟩
    · obtain ⟨n', t', a, b⟩ := ih hv
      exact ⟨n', t', .tail _ a, b⟩
theorem ints_of : ∀ (vs : List Value) {P : Int → Prop}, (∀ v ∈ vs, ∃ n t, P n ∧ v = .int n t) → ∃ ns, IntsAre vs ns ∧ ∀ n ∈ ns, P n
  | [], _, _ => ⟨[], .nil, fun _ h => nomatch h⟩
  | v :: vs, P, h => by
    obtain ⟨n, t, hn, rfl⟩ := h v (.head _)
    obtain ⟨ns, a, b⟩ := ints_of vs (P := P) fun v hv => h v (.tail _ hv)
    exact ⟨n :: ns, .cons n t a, fun x hx => by
      rcases List.mem_cons.mp hx with rfl | hx
      · exact hn
      · exact b x hx⟩
theorem pick_ints {vs : List Value} {ns : List Int} {lo hi st : Option Int} {P : Int → Prop} (h : IntsAre vs ns) (hP : ∀ n ∈ ns, P n) : ∃ ms, IntsAre (slicePick vs.toArray lo hi st).toList ms ∧ (∀ m ∈ ms, P m) ∧ ms.length ≤ ns.length := by
  obtain ⟨ms, a, b⟩ := ints_of (slicePick vs.toArray lo hi st).toList (P := P) fun v hv => by
    obtain ⟨n, t, hn, e⟩ := ints_mem h (pick_sub hv)
    exact ⟨n, t, hP n hn, e⟩
  refine ⟨ms, a, b, ?_⟩
  have := slicePick_size_le vs.toArray lo hi st
  have l1 := IntsAre.length a
  have l2 := IntsAre.length h
  simp at this l1
  omega
theorem sum_bd : ∀ (ms : List Int), (∀ m ∈ ms, 0 ≤ m ∧ m < 1000000) → 0 ≤ ms.sum ∧ ms.sum ≤ 1000000 * ms.length
  | [], _ => by simp
  | m :: ms, h => by
    have h1 := h m (.head _)
    have h2 := sum_bd ms fun x hx => h x (.tail _ hx)
    rw [List.sum_cons, List.length_cons]
    omega
section
variable {prog : Program} {w : World} {A : Around} {E : Value → Shared → Prop} {s : Shared} {h₀ : Heap} {L l : Addr} {m : Str → Option Value} {news : List (Addr × Obj)} {vs : List Value} {ns : List Int} {lo hi st : Option Int} {k : Nat}
theorem sum_pick {Q : Value → Shared → Prop} (F : Fr h₀ L s.heap m) (N : News h₀ L s.heap news) (hh : A.handled = none) (hm : (l, listOf (slicePick vs.toArray lo hi st) k) ∈ news) (hi' : IntsAre vs ns) (hb : ∀ n ∈ ns, 0 ≤ n ∧ n < 1000000)
    (h : ∀ h' tk t' n, Fr h₀ L h' m → News h₀ L h' news → 0 ≤ n → n ≤ 1000000 * (ns.length : Int) → Q (.int n t') { s with heap := h', toks := tk }) : wpAny (model prog w) A (call (.builtin "sum") [.ref l]) Q E s := by
  obtain ⟨ms, a, b, c⟩ := pick_ints (lo := lo) (hi := hi) (st := st) hi' hb
  refine sum_ints F N hh (vs := (slicePick vs.toArray lo hi st).toList) ⟨_, (N _ hm).1, rfl, k, rfl⟩ a fun h' tk t' F' N' => h h' tk t' _ F' N' (sum_bd ms b).1 ?_
  have := (sum_bd ms b).2
  omega
end
/-- a contract that tells the new objects apart from the elder ones; called from any frame -/
noncomputable def SpecN (w : World) (mean : ExcName → Option Value) (mg mb : Str → Option Value) (f : Addr) (size : Nat) (vs : List Value) (Pre : Heap → List (Addr × Obj) → Prop) (Post : List (Addr × Obj) → Value → Prop) : Prop :=
  ∀ (dp un : Nat) (gd : Option (List Code)) (cn : Str) (cs : Scope) (a : Addr) (ccd : Value) (cl : List (Str × Addr)) (outer : List Env) (A₀ : Around) (base h₀ : Heap) (L : Addr) (m : Str → Option Value) (news : List (Addr × Obj)) (s : Shared)
    (Q E : Value → Shared → Prop),
    Below A₀ base outer h₀ → Fr h₀ L s.heap m → (hd.heap_39 w.params).In h₀ → News h₀ L s.heap news → Top view LZ mean mg mb h₀ → cs.kind = .function → Pre h₀ news → dp + size < recursionLimit → un + 8 * size < cLine →
    (∀ r tl h' tk', Fr h₀ L h' m → News h₀ L h' (tl ++ news) → (∀ p ∈ tl, ∀ q ∈ news, @Ne Nat q.1 p.1) → Post tl r → Q r { s with heap := h', toks := tk' }) →
    wpAny (model PG w) (ktrTop dp un gd cn cs L a ccd cl outer) (call (.ref f) vs) Q E s
theorem off1_all {D : Addr} : ∀ {l : List (Addr × Obj)}, LCg.Off1 D l → ∀ p ∈ l, @Ne Nat p.1 D
  | [], _, _, hp => nomatch hp
  | q :: l, h, p, hp => by
    rcases List.mem_cons.mp hp with rfl | hp
    · exact h.1
    · exact off1_all h.2 p hp
section
variable {h₀ : Heap} {L : Addr} {m : Str → Option Value} {news : List (Addr × Obj)} {s : Shared} {Q : Value → Shared → Prop} {Post : List (Addr × Obj) → Value → Prop}
theorem end1N (hret : ∀ r tl h' tk', Fr h₀ L h' m → News h₀ L h' (tl ++ news) → (∀ p ∈ tl, ∀ q ∈ news, @Ne Nat q.1 p.1) → Post tl r → Q r { s with heap := h', toks := tk' })
    {h' : Heap} {tk' : Nat} {a : Addr} {o : Obj} {news' : List (Addr × Obj)} (F : Fr h₀ L h' m) (N : News h₀ L h' news') (hm : (a, o) ∈ news') (hs : ∀ p ∈ news, p ∈ news') (ne : ∀ q ∈ news, @Ne Nat q.1 a) (hp : Post [(a, o)] (.ref a)) :
    Q (.ref a) { s with heap := h', toks := tk' } :=
  hret _ [(a, o)] _ _ F (fun p hp => by
    rcases List.mem_cons.mp hp with rfl | hp
    · exact N _ hm
    · exact N _ (hs _ hp)) (fun p hp q hq => by rw [List.mem_singleton.mp hp]; exact ne q hq) hp
end
section
theorem c_drawn (w : World) (mean : ExcName → Option Value) (mg mb : Str → Option Value) (l : Addr) (vl : List Value) (xs : List Int) (hI : IntsAre vl xs) (hlen : xs.length ≤ 63) :
    SpecN w mean mg mb 62 9 [Value.ref l] (fun h₀ news => h₀.IsList l vl.toArray) (fun tl r => ∃ a vs ds k, r = .ref a ∧ tl = [(a, listOf vs.toArray k)] ∧ IntsAre vs ds ∧ ds.length = 3 ∧ ∀ d ∈ ds, 0 ≤ d ∧ d ≤ 70000000) := by
  w_top off
  k_with_none
  k_with "call builtin:list.extend" => (k_here; (with_reducible show wpAny _ _ (call (Value.builtin _) [Value.ref _, Value.ref _]) _ _ _); k_dflt (refine' my_extend ?zwF ?zwN ?zwU ?zwb ?zwi ?zwj ?zwz ?_; (case zwF => k_asm); (case zwN => k_asm); (case zwb => k_mem); (case zwU => (intro t'; k_upd)); (case zwi => assumption); (case zwj => assumption); (case zwz => (rw [sizeLine_eq]; omega))); intro k' h' F' N' i')
  k_with "call builtin:iter" => (k_here; (with_reducible show wpAny _ _ (call (Value.builtin "iter") [Value.ref _]) _ _ _); k_dflt (refine' my_iter ?zwF ?zwN ?zwm ?_; (case zwF => k_asm); (case zwN => k_asm); (case zwm => k_mem)); intro I' h' F' N' l1; (try k_lt l1))
  k_with "CompSrc" => refine Stop.mk ?_
  k_with "call builtin:sum cons nil" => refine Stop.mk ?_
  have : (Challenge.rw_rs0060_01 = Challenge.rw_rs0060_01 ∧ Mine.hd.heap_39 = Mine.hd.heap_39) := by k_fill; exact ⟨rfl, rfl⟩
  clear this
  have kMark := kstMark
  intro dp un gd cn cs a ccd cl outer A₀ base h₀ L m news s Q E B F X N T hk hP hdp hun hret
  refine wpAny_call ?_
  k_dflt (refine' code_defC ?k1 ?k2 ?k3 ?k4 ?k5 ?kA ?kF ?kK ?k6 ?k7 ?k8 ?k9 ?kB ?kD ?_ ?c2 ?c3 ?c4; (case kA => exact rfl); (case kF => exact rfl); (case kK => assumption); (case k1 => k_asm); (case k2 => k_asm); (case k3 => k_asm); (case k4 => k_asm); (case k5 => k_asm); (case k6 => k_is); (case k7 => k_is); (case k8 => ktr_room); (case k9 => exact BindsTo.of_eq rfl); (case kB => exact rfl); (case kD => decide +kernel); (case c2 => exact rfl); (case c3 => exact rfl); (case c4 => exact rfl); k_whole; intro g' L' h' tk' cells' FG' F' N' Y' B' X' T' l1; (try k_lt l1); k_cells Y'; (try simp only [List.cons_append, List.nil_append] at N'); (try dsimp only); (try k_fold))
  have lc1 : ∀ p ∈ news, p.1 < L' + 1 := fun p hp => Nat.lt_succ_of_lt (l1 p hp)
  have lc2 : ∀ p ∈ news, p.1 < L' + 1 + 1 := fun p hp => Nat.lt_succ_of_lt (lc1 p hp)
  have lc3 : ∀ p ∈ news, p.1 < L' + 1 + 1 + 1 := fun p hp => Nat.lt_succ_of_lt (lc2 p hp)
  have hPg : g'.IsList l vl.toArray := by
    obtain ⟨o8, e8, r8⟩ := hP
    exact ⟨o8, FG'.keep _ _ e8, r8⟩
  k_with_none
  k_with "call builtin:list.extend" => (k_here; (with_reducible show wpAny _ _ (call (Value.builtin _) [Value.ref _, Value.ref _]) _ _ _); k_dflt (refine' my_extend ?zwF ?zwN ?zwU ?zwb ?zwi ?zwj ?zwz ?_; (case zwF => k_asm); (case zwN => k_asm); (case zwb => k_mem); (case zwU => (intro t'; k_upd)); (case zwi => assumption); (case zwj => assumption); (case zwz => (rw [sizeLine_eq]; omega))); intro k' h' F' N' i')
  k_with "call builtin:iter" => (k_here; (with_reducible show wpAny _ _ (call (Value.builtin "iter") [Value.ref _]) _ _ _); k_dflt (refine' my_iter ?zwF ?zwN ?zwm ?_; (case zwF => k_asm); (case zwN => k_asm); (case zwm => k_mem)); intro I' h' F' N' l1; (try k_lt l1))
  k_with "CompSrc" => refine Stop.mk ?_
  k_with "call builtin:sum cons nil" => refine Stop.mk ?_
  k_steps
  refine Stop.go ?_
  rename IntsAre _ (List.take 63 xs) => hT
  have hTl := IntsAre.length hT
  have hT63 : (List.take 63 xs).length ≤ 63 := by rw [List.length_take]; omega
  k_dflt (refine LCg.CompSrc.ledger (by rfl) (by k_asm) (by k_asm) (by k_mem) (by rw [sizeLine_eq, List.size_toArray]; omega) ?_)
  intro g9
  refine comp_fix (fun i ys => IntsAre ys (((List.take 63 xs).take i).map fun x => x.fmod 1000000)) .nil ?_ ?_
  · intro i9 ys9 hi9 hJ9 v9 I9 oI9 C9 oC9 D9 m9 h9 tk9 E9 hv9 hC9 hx9 F9 N9 off9 ne9
    obtain ⟨o9, t9, e9, rfl⟩ := ints_item hT hv9
    k_steps
    rename News _ _ _ _ => nE
    refine comp_end (by assumption) nE (by walk_at "sub") off9 (.inr ⟨_, by k_mem, rfl, _, rfl⟩) ?_
    show IntsAre _ _
    rw [take_snoc e9, List.map_append]
    exact hJ9.append (.cons _ _ .nil)
  · intro ys9 hJ9
    rw [show (List.toArray _).size = (List.take 63 xs).length from by rw [List.size_toArray]; exact hTl, List.take_length] at hJ9
    have hB9 : ∀ n ∈ (List.take 63 xs).map (fun x => x.fmod 1000000), 0 ≤ n ∧ n < 1000000 := by
      intro n hn
      obtain ⟨x, _, rfl⟩ := List.mem_map.mp hn
      exact ⟨Int.fmod_nonneg_of_pos _ (by decide), Int.fmod_lt_of_pos _ (by decide)⟩
    k_steps
    refine Stop.go ?_
    k_dflt (refine LCg.CompSrc.range (by rfl) (by k_asm) (by k_asm) (by assumption) (by first | decide | rfl) (by first | rfl | decide) (by first | size_fits | exact Nat.le_of_ble_eq_true rfl) ?_)
    intro g8
    refine comp_fix (fun i ys => ∃ ns, IntsAre ys ns ∧ ns.length = i ∧ ∀ d ∈ ns, 0 ≤ d ∧ d ≤ 70000000) ⟨[], .nil, rfl, fun _ h => nomatch h⟩ ?_ ?_
    · rintro i8 ys8 hi8 ⟨ns8, hI8, hl8, hb8⟩ v8 I8 oI8 C8 oC8 D8 m8 h8 tk8 E8 ⟨t8, rfl⟩ hC8 hx8 F8 N8 off8 ne8
      have hi8' : i8 < 3 := hi8
      have hk0 : (0 : Int) ≤ 0 + (i8 : Int) := by omega
      have hk3 : (0 : Int) + (i8 : Int) < 3 := by omega
      generalize (0 : Int) + (i8 : Int) = k8 at hk0 hk3 hx8 ⊢
      k_steps
      refine Stop.go ?_
      rename News _ _ _ _ => nS
      dsimp only at nS
      refine sum_pick (by assumption) nS rfl (by k_mem) hJ9 hB9 ?_
      intro hS tkS tS nS' FS NS sS1 sS2
      rw [List.length_map] at sS2
      k_steps
      rename News _ _ _ _ => nE
      refine comp_end (by assumption) nE (by walk_at "sub") off8 trivial ?_
      show ∃ _, _
      refine ⟨ns8 ++ [_], hI8.append (.cons _ _ .nil), by rw [List.length_append, hl8]; rfl, ?_⟩
      intro d hd
      rcases List.mem_append.mp hd with hd | hd
      · exact hb8 d hd
      · rw [List.mem_singleton.mp hd]
        clear hd
        have hT64 : ((List.take 63 xs).length : Int) ≤ 63 := by omega
        rcases (show k8 = 0 ∨ k8 = 1 ∨ k8 = 2 by omega) with rfl | rfl | rfl
        · show 0 ≤ 66 + nS' ∧ 66 + nS' ≤ 70000000
          omega
        · show 0 ≤ 36355 + nS' ∧ 36355 + nS' ≤ 70000000
          omega
        · show 0 ≤ 484724 + nS' ∧ 484724 + nS' ≤ 70000000
          omega
    · rintro ys8 ⟨ns8, hI8, hl8, hb8⟩
      k_steps
      rename News h₀ _ _ _ => nE
      dsimp only at nE
      refine end1N hret (by assumption) nE (by k_mem) (by walk_at "sub") ?_ ⟨_, _, _, _, rfl, rfl, hI8, hl8, hb8⟩
      rename _ ∧ _ ∧ _ ∧ LCg.Off1 _ news => o9
      exact off1_all o9.2.2.2
end

end
section
open PySem PySem.W PySem.Spec PySem.Calls PyProof.Rows PyProof.Rows.LCg PyProof.Rows.LCt
set_option maxHeartbeats 0
set_option rowWalk.seconds 0
noncomputable def heldStep (c : List (Str × Int)) (y : Str) : List (Str × Int) := kdpPut c y (kdpLook c y 0 + 1)
noncomputable def keysF (c : List (Str × Int)) : List Str := c.map (·.1)
noncomputable def heldF (cs : List (List (Str × Int))) : List (Str × Int) := (cs.flatMap keysF).foldl heldStep []
theorem heldStep_len : ∀ (ys : List Str) (c : List (Str × Int)), (ys.foldl heldStep c).length ≤ c.length + ys.length
  | [], c => by simp
  | y :: ys, c => by
    rw [List.foldl_cons, List.length_cons]
    have h1 := heldStep_len ys (heldStep c y)
    have h2 := kdpPut_len c y (kdpLook c y 0 + 1)
    unfold heldStep at h1 ⊢
    omega
theorem keys_at {w : World} {kvs : List (Str × Value)} {c : List (Str × Int)} (hf : PyProof.V.FlatPairs PyData.str kvs (kdpD c)) {i : Nat} {y : Str} (h : ∃ v, kvs[i]? = some (y, v)) : (keysF c)[i]? = some y := by
  obtain ⟨v, h⟩ := h
  obtain ⟨dv, e, _⟩ := hf.at h
  unfold kdpD at e
  unfold keysF
  rw [List.getElem?_map] at e ⊢
  cases q : c[i]? with
  | none => rw [q] at e; cases e
  | some p =>
    rw [q] at e
    simp only [Option.map_some, Option.some.injEq, Prod.mk.injEq, PyData.str.injEq] at e ⊢
    exact e.1
theorem flat_len {kvs : List (Str × Value)} {c : List (Str × Int)} (hf : PyProof.V.FlatPairs PyData.str kvs (kdpD c)) : kvs.length = c.length := by
  rw [← hf.length, kdpD_length]
section
variable {prog : Program} {w : World} {A : Around} {E : Value → Shared → Prop} {s : Shared} {h₀ : Heap} {L d : Addr} {m : Str → Option Value} {news : List (Addr × Obj)} {o : Obj} {kvs : List (Str × Value)} {c : List (Str × Int)} {k : Str} {e : Int} {tk te : Tok}
theorem my_get2 {Q : Value → Shared → Prop} (N : News h₀ L s.heap news) (hm : (d, o) ∈ news) (lo : (d == sysModules) = false) (hd : o.IsDictOf (PySem.strKind prog w) kvs) (hf : PyProof.V.FlatPairs PyData.str kvs (kdpD c))
    (h : ∀ t, Q (.int (kdpLook c k e) t) { s with toks := s.toks + 1 }) : wpAny (model prog w) A (call (.builtin "dict.get") [.ref d, .str k tk, .int e te]) Q E s :=
  kdp_get2 ⟨lo, kvs, kda_dict N hm hd, hf⟩ h
end
structure HS where
  o : Obj
  kvs : List (Str × Value)
  c : List (Str × Int)
section
theorem c_held (w : World) (mean : ExcName → Option Value) (mg mb : Str → Option Value) (r : Addr) (vl : List Value) (k : Nat) (cs : List (List (Str × Int))) (rows : List (Addr × Obj)) (hvl : vl = rows.map fun p => Value.ref p.1) (hlen : rows.length ≤ 3)
    (hD : ∀ (i : Nat) p, rows[i]? = some p → ∃ c, cs[i]? = some c ∧ DS w p.2 c ∧ c.length ≤ 16 ∧ (p.1 == sysModules) = false) (hcs : cs.length = rows.length) :
    Spec w mean mg mb 100 2 [Value.ref r] (fun news => (r, listOf vl.toArray k) ∈ news ∧ ∀ p ∈ rows, p ∈ news) (fun tl v => ∃ a o, v = .ref a ∧ tl = [(a, o)] ∧ (a == sysModules) = false ∧ DS w o (heldF cs)) := by
  w_top off
  k_with_none
  k_with "call builtin:list.extend" => (k_here; (with_reducible show wpAny _ _ (call (Value.builtin _) [Value.ref _, Value.ref _]) _ _ _); k_dflt (refine' my_extend ?zwF ?zwN ?zwU ?zwb ?zwi ?zwj ?zwz ?_; (case zwF => k_asm); (case zwN => k_asm); (case zwb => k_mem); (case zwU => (intro t'; k_upd)); (case zwi => assumption); (case zwj => assumption); (case zwz => (rw [sizeLine_eq]; omega))); intro k' h' F' N' i')
  k_with "call builtin:iter" => (k_here; (with_reducible show wpAny _ _ (call (Value.builtin "iter") [Value.ref _]) _ _ _); k_dflt (refine' my_iter ?zwF ?zwN ?zwm ?_; (case zwF => k_asm); (case zwN => k_asm); (case zwm => k_mem)); intro I' h' F' N' l1; (try k_lt l1))
  k_with "exec For Name Name cons nil" => (k_here; (rename Fr _ _ _ _ => lF'); (with_unfolding_all refine' For_invVF lF' ?zwk1 ?zwk2 ?_; (case zwk1 => exact rfl); (case zwk2 => exact rfl); k_whole))
  k_with "pyIter ref" => refine Stop.mk ?_
  k_with "call builtin:dict.get" => (k_here; k_dflt (refine' my_get2 ?zwN ?zwm ?zwlo ?zwd ?zwf ?_; (case zwN => k_asm); (case zwm => k_mem); (case zwlo => assumption); (case zwd => assumption); (case zwf => assumption)); intro t')
  k_with "setItem ref str int" => (k_here; k_dflt (refine' kdp_setItem ?zwF ?zwN ?zwU ?zwd ?zwf ?zwc ?_; (case zwF => k_asm); (case zwN => k_asm); (case zwU => k_updF); (case zwd => assumption); (case zwf => assumption); (case zwc => assumption)); intro h' o' kvs' F' N' d' f')
  k_with "InvEndN" => refine Stop.mk ?_
  have : (Challenge.rw_rs0060_01 = Challenge.rw_rs0060_01 ∧ Mine.hd.heap_39 = Mine.hd.heap_39) := by k_fill; exact ⟨rfl, rfl⟩
  clear this
  have kMark := kstMark
  intro dp un gd cn cs' a ccd cl outer A₀ base h₀ L m news s Q E B F X N T hk hP hdp hun hret
  refine wpAny_call ?_
  k_dflt ktr_enter
  k_with_none
  k_with "call builtin:list.extend" => (k_here; (with_reducible show wpAny _ _ (call (Value.builtin _) [Value.ref _, Value.ref _]) _ _ _); k_dflt (refine' my_extend ?zwF ?zwN ?zwU ?zwb ?zwi ?zwj ?zwz ?_; (case zwF => k_asm); (case zwN => k_asm); (case zwb => k_mem); (case zwU => (intro t'; k_upd)); (case zwi => assumption); (case zwj => assumption); (case zwz => (rw [sizeLine_eq]; omega))); intro k' h' F' N' i')
  k_with "call builtin:iter" => (k_here; (with_reducible show wpAny _ _ (call (Value.builtin "iter") [Value.ref _]) _ _ _); k_dflt (refine' my_iter ?zwF ?zwN ?zwm ?_; (case zwF => k_asm); (case zwN => k_asm); (case zwm => k_mem)); intro I' h' F' N' l1; (try k_lt l1))
  k_with "exec For Name Name cons nil" => (k_here; (rename Fr _ _ _ _ => lF'); (with_unfolding_all refine' For_invVF lF' ?zwk1 ?zwk2 ?_; (case zwk1 => exact rfl); (case zwk2 => exact rfl); k_whole))
  k_with "pyIter ref" => refine Stop.mk ?_
  k_with "call builtin:dict.get" => (k_here; k_dflt (refine' my_get2 ?zwN ?zwm ?zwlo ?zwd ?zwf ?_; (case zwN => k_asm); (case zwm => k_mem); (case zwlo => assumption); (case zwd => assumption); (case zwf => assumption)); intro t')
  k_with "setItem ref str int" => (k_here; k_dflt (refine' kdp_setItem ?zwF ?zwN ?zwU ?zwd ?zwf ?zwc ?_; (case zwF => k_asm); (case zwN => k_asm); (case zwU => k_updF); (case zwd => assumption); (case zwf => assumption); (case zwc => assumption)); intro h' o' kvs' F' N' d' f')
  k_with "InvEndN" => refine Stop.mk ?_
  k_steps
  refine Stop.go ?_
  rename ∀ p ∈ news, p.1 < _ => hltd
  obtain ⟨hP1, hP2⟩ := hP
  k_dflt (refine' kst_vals (σ := HS) (vs := vl) (k := k) (fun c => (?d, c.o) :: news) (fun _ => []) (fun c => c.o.IsDictOf (PySem.strKind PG w) c.kvs ∧ PyProof.V.FlatPairs PyData.str c.kvs (kdpD c.c)) [Str.ofString "name"] (fun i c => c.c = ((cs.take i).flatMap keysF).foldl heldStep [] ∧ c.c.length ≤ 16 * i) ⟨?o, [], []⟩ ?hh ?hl ?had ?F ?N ?hf ?hk ?hp ?turn ?done)
  (case N => k_asm)
  (case hh => rfl)
  (case hl => exact fun _ => List.mem_cons_of_mem _ hP1)
  (case had => exact fun _ => rfl)
  (case F => k_asm)
  (case hf => exact ⟨by assumption, by assumption⟩)
  (case hk => exact fun _ h => nomatch h)
  (case hp => exact ⟨rfl, Nat.zero_le _⟩)
  · intro c pre v kU kH kTk own kLt kV kOff kFacts kInv kFr kNews
    obtain ⟨o1, kvs1, c1⟩ := c
    dsimp only [kstB] at kFacts kInv kFr kNews kOff
    obtain ⟨hd1, hf1⟩ := kFacts
    obtain ⟨hi1, hl1⟩ := kInv
    rw [hvl, List.getElem?_map] at kV
    rw [hvl, List.length_map] at kLt
    obtain ⟨p9, hp9⟩ : ∃ p, rows[pre.length]? = some p := ⟨rows[pre.length], by simp [kLt]⟩
    rw [hp9] at kV
    obtain rfl : Value.ref p9.1 = v := Option.some.inj kV
    obtain ⟨c9, hc9, ⟨kvs9, hd9, hf9⟩, hl9, lo9⟩ := hD _ _ hp9
    have hm9 := hP2 p9 (List.mem_of_getElem? hp9)
    obtain ⟨a9, o9⟩ := p9
    dsimp only at hd9 lo9 hm9 kFr
    (try dsimp only); (try k_fold)
    simp only [List.cons_append] at kNews
    k_steps
    refine Stop.go ?_
    have fl9 := flat_len hf9
    k_dflt (refine' kst_keys (σ := HS) (o := o9) (kvs := kvs9) (fun c => (?d2, c.o) :: (news ++ own)) (fun _ => []) (fun c => c.o.IsDictOf (PySem.strKind PG w) c.kvs ∧ PyProof.V.FlatPairs PyData.str c.kvs (kdpD c.c)) [] (fun i c => c.c = ((keysF c9).take i).foldl heldStep c1 ∧ c.c.length ≤ 16 * pre.length + i) ⟨o1, kvs1, c1⟩ ?hhB ?loB ?hdB ?hlB ?hadB ?FB ?NB ?hfB ?hkB ?hpB ?turnB ?doneB)
    (case NB => k_asm)
    (case hhB => rfl)
    (case loB => exact lo9)
    (case hdB => exact hd9)
    (case hlB => exact fun _ => List.mem_cons_of_mem _ (List.mem_append_left _ hm9))
    (case hadB => exact fun _ => rfl)
    (case FB => k_asm)
    (case hfB => exact ⟨hd1, hf1⟩)
    (case hkB => exact fun _ h => nomatch h)
    (case hpB => exact ⟨rfl, hl1⟩)
    · intro c2 pre2 y2 t2 kU2 kH2 kTk2 own2 kLt2 kV2 kOff2 kFacts2 kInv2 kFr2 kNews2
      obtain ⟨o2, kvs2, c2⟩ := c2
      dsimp only [kstB] at kFacts2 kInv2 kFr2 kNews2 kOff2
      obtain ⟨hd2, hf2⟩ := kFacts2
      obtain ⟨hi2, hl2⟩ := kInv2
      have ky2 := keys_at (w := w) hf9 kV2
      simp only [List.cons_append] at kNews2
      have cz2 : c2.length ≤ 16777216 := by omega
      (try dsimp only); (try k_fold)
      k_steps
      refine Stop.go ?_
      rename News _ _ _ _ => nE
      exact kst_end ⟨_, _, heldStep c2 y2⟩ (by assumption) nE (by walk_at "subs") (by walk_at "subs") rfl ⟨by assumption, by assumption⟩ (fun _ h => nomatch h) (by kst_same)
        ⟨by rw [List.length_append, List.length_singleton, take_snoc ky2, List.foldl_append, ← hi2]; rfl, by have := kdpPut_len c2 y2 (kdpLook c2 y2 0 + 1); rw [List.length_append, List.length_singleton]; unfold heldStep; dsimp only; omega⟩
    · intro c2 kU2 kH2 kTk2 kFacts2 kInv2 kFr2 kNews2
      obtain ⟨o2, kvs2, c2⟩ := c2
      dsimp only [kstB] at kFacts2 kInv2 kFr2 kNews2
      obtain ⟨hi2, hl2⟩ := kInv2
      k_steps
      refine Stop.go ?_
      rename News _ _ _ _ => nE
      have e9 : (keysF c9).take kvs9.length = keysF c9 := List.take_of_length_le (by unfold keysF; rw [List.length_map]; omega)
      exact kst_end ⟨o2, kvs2, c2⟩ (by assumption) nE (by walk_at "subs") (by walk_at "subs") rfl kFacts2 (fun _ h => nomatch h) (by kst_same)
        ⟨by rw [List.length_append, List.length_singleton, take_snoc hc9, List.flatMap_append, List.foldl_append, ← hi1]; rw [e9] at hi2; simpa using hi2, by rw [List.length_append, List.length_singleton]; dsimp only; omega⟩
  · intro c kU kH kTk kFacts kInv kFr kNews
    obtain ⟨o1, kvs1, c1⟩ := c
    dsimp only [kstB] at kFacts kInv kFr kNews
    obtain ⟨hi1, hl1⟩ := kInv
    k_steps
    rename News h₀ _ _ _ => nE
    dsimp only at nE
    have e8 : cs.take vl.length = cs := List.take_of_length_le (by rw [hvl, List.length_map]; omega)
    rw [e8] at hi1
    exact end1 hret (by assumption) nE (by k_mem) (by walk_at "sub") hltd ⟨_, _, rfl, rfl, by assumption, _, kFacts.1, by rw [show heldF cs = c1 from hi1.symm]; exact kFacts.2⟩
end

end
section
open PySem PySem.W PySem.Spec PySem.Calls PyProof PyProof.Rows PyProof.Rows.LCg PyProof.Rows.LCt
/-- a piece of a text -/
noncomputable def cut (x : Str) (k m : Nat) : Str := ⟨((x.cps.toList.drop k).take m).toArray⟩
theorem str_len (x : Str) : x.length = x.cps.toList.length := by show x.cps.size = _; simp
theorem cut_len {x : Str} {k m : Nat} (h : k + m ≤ x.length) : (cut x k m).length = m := by
  rw [str_len] at h
  show ((x.cps.toList.drop k).take m).toArray.size = m
  rw [List.size_toArray, List.length_take, List.length_drop]
  omega
theorem cut_all (x : Str) : cut x 0 x.length = x := by
  unfold cut
  rw [List.drop_zero, str_len, List.take_length]
theorem cut_cut {x : Str} {k m a b : Nat} (h : a + b ≤ m) : cut (cut x k m) a b = cut x (k + a) b := by
  unfold cut
  congr 2
  simp only [List.drop_take, List.drop_drop, List.take_take]
  congr 1
  omega
theorem slice_from {x : Str} {i : Int} (h0 : 0 ≤ i) (h1 : i ≤ x.length) : Txt.slice x (some i) none = cut x i.toNat (x.length - i.toNat) := by
  rw [slice_from_eq h0 h1 rfl]
  unfold cut
  congr 3
  omega
theorem slice_to_neg {x : Str} {j : Int} (h0 : j < 0) (h1 : -(x.length : Int) ≤ j) : Txt.slice x none (some j) = cut x 0 (x.length - (-j).toNat) := by
  rw [beq_iff_eq.mp (slice_closes_to_neg h0 h1 rfl)]
  unfold cut
  congr 3
  omega
theorem slice_all (x : Str) : Txt.slice x none none = x := by
  unfold Txt.slice Builtin.Str.strSliceIndices sliceRange
  simp
  intro h
  refine absurd ?_ h
  split <;> omega
theorem getD_list (x : Str) (i : Nat) : x.cps.getD i 0 = x.cps.toList.getD i 0 := by
  rw [Array.getD_eq_getD_getElem?, List.getD_eq_getElem?_getD, Array.getElem?_toList]
theorem item_at {x : Str} {i : Int} (h0 : 0 ≤ i) (h1 : i < x.length) : Txt.item x i = ⟨#[x.cps.toList.getD i.toNat 0]⟩ := by
  rw [str_len] at h1
  refine item_meets h0 ?_
  rw [← Array.getElem?_toList, List.getD_eq_getElem?_getD]
  have : i.toNat < x.cps.toList.length := by omega
  rw [List.getElem?_eq_getElem this]
  rfl
theorem item_neg {x : Str} {i : Int} (h0 : i < 0) (h1 : -(x.length : Int) ≤ i) : Txt.item x i = ⟨#[x.cps.toList.getD (i + x.length).toNat 0]⟩ := by
  rw [beq_iff_eq.mp (item_closes_neg h0 h1 rfl), getD_list]
theorem cut_getD {x : Str} {k m i : Nat} (h : i < m) : (cut x k m).cps.toList.getD i 0 = x.cps.toList.getD (k + i) 0 := by
  unfold cut
  simp only [List.getD_eq_getElem?_getD, List.getElem?_take, List.getElem?_drop, h, if_true]
theorem one_eq {a b : Nat} : ((⟨#[a]⟩ : Str) == ⟨#[b]⟩) = decide (a = b) := by
  by_cases h : a = b
  · subst h; simp
  · rw [decide_eq_false h]
    refine beq_eq_false_iff_ne.mpr fun e => h ?_
    injection e with e
    simpa using e
/-- the reckoning of one row of the table, and of the table: none when a row's least is above the bound -/
structure RowSt where
  row : List Int
  dist : Int
  res : Int
  least : Int
noncomputable abbrev pmin (a b : Int) : Int := if b < a then b else a
noncomputable def cellStep (c : Nat → Int) (st : RowSt) (j : Nat) : RowSt :=
  let r := pmin (pmin st.res (st.row.getD j 0) + 2) (st.dist + c j)
  ⟨st.row.set j r, st.row.getD j 0, r, if r < st.least then r else st.least⟩
noncomputable def rowF (m : Nat) (c : Nat → Int) (i : Nat) (row : List Int) : RowSt := (List.range m).foldl (cellStep c) ⟨row, (i : Int) * 2, (i : Int) * 2, 9223372036854775807⟩
noncomputable def tabF' (m : Nat) (c : Nat → Nat → Int) : Nat → Option (List Int × Int)
  | 0 => some ((List.range m).map (fun j : Nat => 2 + (j : Int) * 2), 0)
  | i + 1 => (tabF' m c i).bind fun p => let st := rowF m (c i) i p.1; if st.least > 4 then none else some (st.row, st.res)
theorem drop_more {a b : List Nat} {k : Nat} (h : a.drop (k + 1) = b.drop (k + 1)) (e : a.getD k 0 = b.getD k 0) (ha : k < a.length) (hb : k < b.length) : a.drop k = b.drop k := by
  rw [List.drop_eq_getElem_cons ha, List.drop_eq_getElem_cons hb, h]
  simp only [List.getD_eq_getElem?_getD, List.getElem?_eq_getElem ha, List.getElem?_eq_getElem hb, Option.getD_some] at e
  rw [e]
theorem cell_lt {c : Nat → Int} {row : List Int} {d res le : Int} {j : Nat} (h : pmin (pmin res (row.getD j 0) + 2) (d + c j) < le) : cellStep c ⟨row, d, res, le⟩ j = ⟨row.set j (pmin (pmin res (row.getD j 0) + 2) (d + c j)), row.getD j 0, pmin (pmin res (row.getD j 0) + 2) (d + c j), pmin (pmin res (row.getD j 0) + 2) (d + c j)⟩ := by
  unfold cellStep
  dsimp only
  rw [if_pos h]
theorem cell_ge {c : Nat → Int} {row : List Int} {d res le : Int} {j : Nat} (h : ¬ pmin (pmin res (row.getD j 0) + 2) (d + c j) < le) : cellStep c ⟨row, d, res, le⟩ j = ⟨row.set j (pmin (pmin res (row.getD j 0) + 2) (d + c j)), row.getD j 0, pmin (pmin res (row.getD j 0) + 2) (d + c j), le⟩ := by
  unfold cellStep
  dsimp only
  rw [if_neg h]
theorem tab_none {m : Nat} {c : Nat → Nat → Int} {i : Nat} (h : tabF' m c i = none) : ∀ k, tabF' m c (i + k) = none
  | 0 => h
  | k + 1 => by
    show (tabF' m c (i + k)).bind _ = none
    rw [tab_none h k]
    rfl
theorem cellStep_len (c : Nat → Int) (st : RowSt) (j : Nat) : (cellStep c st j).row.length = st.row.length := by simp [cellStep]
theorem fold_cell_len (c : Nat → Int) : ∀ (l : List Nat) (st : RowSt), (l.foldl (cellStep c) st).row.length = st.row.length
  | [], _ => rfl
  | j :: l, st => by rw [List.foldl_cons, fold_cell_len c l, cellStep_len]
theorem ints_of_get : ∀ {vs : List Value} {n : Nat} {f : Nat → Int}, vs.length = n → (∀ j v, vs[j]? = some v → ∃ t, v = Value.int (f j) t) → IntsAre vs ((List.range n).map f)
  | [], n, f, hn, _ => by
    subst hn
    exact .nil
  | v :: vs, n, f, hn, h => by
    subst hn
    obtain ⟨t, rfl⟩ := h 0 v rfl
    have := ints_of_get (vs := vs) (n := vs.length) (f := fun j => f (j + 1)) rfl fun j v hv => h (j + 1) v (by simpa using hv)
    rw [List.length_cons, List.range_succ_eq_map, List.map_cons, List.map_map]
    exact .cons _ t this

end
section
open PySem PySem.W PySem.Spec PySem.Calls PyProof.Rows PyProof.Rows.LCg PyProof.Rows.LCt
set_option maxHeartbeats 0
set_option rowWalk.seconds 0
noncomputable def subN (a b : Nat) : Int := subF ⟨#[a]⟩ ⟨#[b]⟩
section
variable {prog : Program} {w : World} {A : Around} {E : Value → Shared → Prop} {s : Shared} {value slice : PySem.Expr} {x : Str} {t : Tok} {h₀ : Heap} {L : Addr} {m : Str → Option Value} {news : List (Addr × Obj)} {Q : Value → Shared → Prop} {i : Int} {u : Tok} {n k : Nat}
theorem lv_from (F : Fr h₀ L s.heap m) (N : News h₀ L s.heap news) (hx : x.length = n) (hz : n ≤ 100) (hk : i = (k : Int)) (h1 : k ≤ n)
    (h : ∀ h' t' tk', Fr h₀ L h' m → News h₀ L h' news → Q (.str (cut x k (n - k)) t') { s with heap := h', toks := tk' })
    (hs : subscripted slice false (.str x t) (.ref s.heap.objs.size) = operate [.ref s.heap.objs.size, .str x t] (getItem (.str x t) (.ref s.heap.objs.size)) := by with_unfolding_all rfl)
    (ht : ∀ r, letTemporaryGo value (.str x t) r = pure () := by intro _; with_unfolding_all rfl) :
    wpAny (model prog w) A (subscriptTail value slice (.str x t) (.ref s.heap.objs.size)) Q E { s with heap := s.heap.push { cls := .type "slice", data := .fields #[.int i u, .none, .none] } } := by
  subst hx hk
  exact slice_strN_sn F N (fun h' t' tk' F' N' => by rw [slice_from (Int.natCast_nonneg k) (by omega), Int.toNat_natCast]; exact h h' t' tk' F' N') hs ht (by rw [sizeLine_eq]; omega)
theorem lv_to (F : Fr h₀ L s.heap m) (N : News h₀ L s.heap news) (hx : x.length = n) (hz : n ≤ 100) (hk : i = -(k : Int)) (h0 : 0 < k) (h1 : k ≤ n)
    (h : ∀ h' t' tk', Fr h₀ L h' m → News h₀ L h' news → Q (.str (cut x 0 (n - k)) t') { s with heap := h', toks := tk' })
    (hs : subscripted slice false (.str x t) (.ref s.heap.objs.size) = operate [.ref s.heap.objs.size, .str x t] (getItem (.str x t) (.ref s.heap.objs.size)) := by with_unfolding_all rfl)
    (ht : ∀ r, letTemporaryGo value (.str x t) r = pure () := by intro _; with_unfolding_all rfl) :
    wpAny (model prog w) A (subscriptTail value slice (.str x t) (.ref s.heap.objs.size)) Q E { s with heap := s.heap.push { cls := .type "slice", data := .fields #[.none, .int i u, .none] } } := by
  subst hx hk
  exact slice_strN_ns F N (fun h' t' tk' F' N' => by rw [slice_to_neg (by omega) (by omega), Int.neg_neg, Int.toNat_natCast]; exact h h' t' tk' F' N') hs ht (by rw [sizeLine_eq]; omega)
theorem lv_all (F : Fr h₀ L s.heap m) (N : News h₀ L s.heap news) (hx : x.length = n) (hz : n ≤ 100)
    (h : ∀ h' t' k, Fr h₀ L h' m → News h₀ L h' news → Q (.str x t') { s with heap := h', toks := k })
    (hs : subscripted slice false (.str x t) (.ref s.heap.objs.size) = operate [.ref s.heap.objs.size, .str x t] (getItem (.str x t) (.ref s.heap.objs.size)) := by with_unfolding_all rfl)
    (ht : ∀ r, letTemporaryGo value (.str x t) r = pure () := by intro _; with_unfolding_all rfl) :
    wpAny (model prog w) A (subscriptTail value slice (.str x t) (.ref s.heap.objs.size)) Q E { s with heap := s.heap.push { cls := .type "slice", data := .fields #[.none, .none, .none] } } := by
  subst hx
  exact slice_strN_nn F N (fun h' t' k F' N' => by rw [slice_all]; exact h h' t' k F' N') hs ht (by rw [sizeLine_eq]; omega)
theorem take_more {a b : List Nat} {k : Nat} (h : a.take k = b.take k) (e : a.getD k 0 = b.getD k 0) (ha : k < a.length) (hb : k < b.length) : a.take (k + 1) = b.take (k + 1) := by
  rw [List.take_add_one, List.take_add_one, h, List.getElem?_eq_getElem ha, List.getElem?_eq_getElem hb]
  simp only [List.getD_eq_getElem?_getD, List.getElem?_eq_getElem ha, List.getElem?_eq_getElem hb, Option.getD_some] at e
  rw [e]
theorem lv_item (hx : x.length = n) (hz : n ≤ 100) (h0 : 0 ≤ i) (h1 : i < n)
    (h : Q (.str ⟨#[x.cps.toList.getD i.toNat 0]⟩ s.toks) { s with toks := s.toks + 1 })
    (hs : subscripted slice false (.str x t) (.int i u) = operate [.str x t, .int i u] (getItem (.str x t) (.int i u)) := by with_unfolding_all rfl)
    (ht : ∀ r, letTemporaryGo value (.str x t) r = pure () := by intro _; with_unfolding_all rfl) :
    wpAny (model prog w) A (subscriptTail value slice (.str x t) (.int i u)) Q E s := by
  subst hx
  exact item_str (fitsSsize_of (N := 9223372036854775808) (by omega) (by omega) (Int.le_refl _)) (by omega) h1 (fun _ => by rw [item_at h0 h1]; exact h) hs ht
theorem lv_itemN (hx : x.length = n) (hz : n ≤ 100) (h0 : i < 0) (h1 : -(n : Int) ≤ i)
    (h : Q (.str ⟨#[x.cps.toList.getD (i + n).toNat 0]⟩ s.toks) { s with toks := s.toks + 1 })
    (hs : subscripted slice false (.str x t) (.int i u) = operate [.str x t, .int i u] (getItem (.str x t) (.int i u)) := by with_unfolding_all rfl)
    (ht : ∀ r, letTemporaryGo value (.str x t) r = pure () := by intro _; with_unfolding_all rfl) :
    wpAny (model prog w) A (subscriptTail value slice (.str x t) (.int i u)) Q E s := by
  subst hx
  exact item_str (fitsSsize_of (N := 9223372036854775808) (by omega) (by omega) (Int.le_refl _)) h1 (by omega) (fun _ => by rw [item_neg h0 h1]; exact h) hs ht
theorem lv_truthy {Q : Bool → Shared → Prop} (hx : x.length = n) (hz : n ≤ 100) (hn : 0 < n) (h : ∀ k, Q true { s with toks := k }) : wpAny (model prog w) A (truthy (.str x t)) Q E s := by
  refine P.truthy_str (by omega) ?_
  rw [show ((x.length : Int) != 0) = true from bne_iff_ne.mpr (by omega)]
  exact h _
theorem lv_falsy {Q : Bool → Shared → Prop} (hx : x.length = 0) (h : ∀ k, Q false { s with toks := k }) : wpAny (model prog w) A (truthy (.str x t)) Q E s := by
  refine P.truthy_str (by omega) ?_
  rw [show ((x.length : Int) != 0) = false from bne_eq_false_iff_eq.mpr (by omega)]
  exact h _
noncomputable def postV (q : Nat) (t : Tok) : Value := if q = 0 then .none else .int (-(q : Int)) t
theorem lv_or {env : Env} {y : Str} {p1 p2 p3 : Pos} {q c : Nat} (h1 : ∀ (Q E : Value → Shared → Prop), Q (.int (-(q : Int)) u) s → wpAny (model prog w) A (eval (.Name y p1) env) Q E s) (h : Q (postV q u) s) :
    wpAny (model prog w) A (eval (.BoolOp .Or [.Name y p1, .Constant .none c p2] p3) env) Q E s := by
  refine BoolOp_or (h1 _ _ (truthy_int ?_))
  unfold postV at h
  by_cases hq : q = 0
  · rw [if_pos hq] at h
    rw [show (-(q : Int) != 0) = false from bne_eq_false_iff_eq.mpr (by omega)]
    exact BoolOp_one (wpAny_Constant_none h)
  · rw [if_neg hq] at h
    rw [show (-(q : Int) != 0) = true from bne_iff_ne.mpr (by omega)]
    exact h
theorem lv_post {q : Nat} (F : Fr h₀ L s.heap m) (N : News h₀ L s.heap news) (hx : x.length = n) (hz : n ≤ 100) (h1 : q ≤ n)
    (h : ∀ h' t' tk', Fr h₀ L h' m → News h₀ L h' news → Q (.str (cut x 0 (n - q)) t') { s with heap := h', toks := tk' })
    (hs : subscripted slice false (.str x t) (.ref s.heap.objs.size) = operate [.ref s.heap.objs.size, .str x t] (getItem (.str x t) (.ref s.heap.objs.size)) := by with_unfolding_all rfl)
    (ht : ∀ r, letTemporaryGo value (.str x t) r = pure () := by intro _; with_unfolding_all rfl) :
    wpAny (model prog w) A (subscriptTail value slice (.str x t) (.ref s.heap.objs.size)) Q E { s with heap := s.heap.push { cls := .type "slice", data := .fields #[.none, postV q u, .none] } } := by
  unfold postV
  by_cases hq : q = 0
  · rw [if_pos hq]
    refine lv_all F N hx hz (fun h' t' k F' N' => ?_) hs ht
    have := h h' t' k F' N'
    rw [hq, Nat.sub_zero, ← hx, cut_all] at this
    exact this
  · rw [if_neg hq]
    exact lv_to F N hx hz rfl (by omega) h1 h hs ht
theorem lv_listRange {r : Addr} {a b c : Int} {t1 t2 t3 : Tok} (hh : A.handled = none) (F : Fr h₀ L s.heap m) (N : News h₀ L s.heap news) (hr : IsRange s.heap r a b c t1 t2 t3) (hsmall : Builtin.Range.small a b c = true) (hn : Builtin.Range.rangeSize a b c = (n : Int)) (hlen : n ≤ 100)
    (h : ∀ (D : Addr) cc h' tk vs, Fr h₀ L h' m → News h₀ L h' ((D, listOf vs.toArray cc) :: news) → (∀ q ∈ news, q.1 < D) → IntsAre vs ((List.range n).map fun i : Nat => a + (i : Int) * c) → Q (.ref D) { s with heap := h', toks := tk }) :
    wpAny (model prog w) A (call (.type "list") [.ref r]) Q E s :=
  call_list_range hh hr hsmall hn (by omega) fun h' tk acc' c' hk hD hacc => h _ c' h' tk acc'.toList (F.keeps hk) (news_pushed F N hk (by simpa using hD) rfl) (fun q hq => Heap.lt_size (N q hq).1)
    (ints_of_get (by rw [Array.length_toList]; exact hacc.1) fun j v e => hacc.2 j v (by rw [← Array.getElem?_toList]; exact e))
end
theorem rs2 {m : Nat} (h0 : 0 < m) (h6 : m ≤ 6) : Builtin.Range.small 2 (2 * ((m : Int) + 1)) 2 = true ∧ Builtin.Range.rangeSize 2 (2 * ((m : Int) + 1)) 2 = (m : Int) := by
  rcases (show m = 1 ∨ m = 2 ∨ m = 3 ∨ m = 4 ∨ m = 5 ∨ m = 6 by omega) with rfl | rfl | rfl | rfl | rfl | rfl <;> exact ⟨by decide, by decide⟩
theorem rs1 {m : Nat} (h0 : 0 < m) (h6 : m ≤ 6) : Builtin.Range.small 0 (m : Int) 1 = true ∧ Builtin.Range.rangeSize 0 (m : Int) 1 = (m : Int) := by
  rcases (show m = 1 ∨ m = 2 ∨ m = 3 ∨ m = 4 ∨ m = 5 ∨ m = 6 by omega) with rfl | rfl | rfl | rfl | rfl | rfl <;> exact ⟨by decide, by decide⟩
structure LS where
  vs : List Value
  k : Nat
  st : RowSt
  t : Tok
  t2 : Tok
  t3 : Tok
section
theorem c_lev (w : World) (mean : ExcName → Option Value) (mg mb : Str → Option Value) (x y : Str) (t u v : Tok) (n : Nat) (hx : x.length = n) (hy : y.length = n) (hn : n ≤ 6) :
    Spec w mean mg mb 57 6 [Value.str x t, Value.str y u, Value.int 4 v] (fun news => True) (fun tl r => tl = [] ∧ ∃ v t, r = .int v t ∧ (x = y → v = 0) ∧ (x ≠ y → ∃ k m, 0 < m ∧ k + m ≤ n ∧ x.cps.toList.take k = y.cps.toList.take k ∧ x.cps.toList.drop (k + m) = y.cps.toList.drop (k + m) ∧ ∀ row res, tabF' m (fun i j => subN (y.cps.toList.getD (k + i) 0) (x.cps.toList.getD (k + j) 0)) m = some (row, res) → v = res)) := by
  w_top off
  k_with_none
  k_with "call builtin:list.extend" => (k_here; (with_reducible show wpAny _ _ (call (Value.builtin _) [Value.ref _, Value.ref _]) _ _ _); k_dflt (refine' my_extend ?zwF ?zwN ?zwU ?zwb ?zwi ?zwj ?zwz ?_; (case zwF => k_asm); (case zwN => k_asm); (case zwb => k_mem); (case zwU => (intro t'; k_upd)); (case zwi => assumption); (case zwj => assumption); (case zwz => (rw [sizeLine_eq]; omega))); intro k' h' F' N' i')
  k_with "call builtin:iter" => (k_here; (with_reducible show wpAny _ _ (call (Value.builtin "iter") [Value.ref _]) _ _ _); k_dflt (refine' my_iter ?zwF ?zwN ?zwm ?_; (case zwF => k_asm); (case zwN => k_asm); (case zwm => k_mem)); intro I' h' F' N' l1; (try k_lt l1))
  k_with "call type:list cons nil" => refine Stop.mk ?_
  k_with "exec For Name Call cons nil" => (k_here; (rename Fr _ _ _ _ => lF'); (with_unfolding_all refine' For_invVF lF' ?zwk1 ?zwk2 ?_; (case zwk1 => exact rfl); (case zwk2 => exact rfl); k_whole))
  k_with "pyIter ref" => refine Stop.mk ?_
  k_with "InvEndN" => refine Stop.mk ?_
  k_with "truthy str" => (k_here; first | (k_dflt (refine' lv_truthy ?zwx ?zwy ?zwz ?_; (case zwx => assumption); (case zwy => omega); (case zwz => omega)); intro kt') | (k_dflt (refine' lv_falsy ?zwx ?_; (case zwx => assumption)); intro kt'))
  k_with "exec While BoolOp cons nil" => refine Stop.mk ?_
  k_with "subscriptTail Name Slice str ref" => (k_here; first | (k_dflt (refine' lv_from (s := ⟨_, _, _, _, _⟩) ?zwF ?zwN ?zwx ?zwz ?zwa ?zwb ?_; (case zwF => k_asm); (case zwN => k_asm); (case zwx => assumption); (case zwz => omega); (case zwa => exact rfl); (case zwb => omega)); intro h' t' k' F' N') | (k_dflt (refine' lv_post (s := ⟨_, _, _, _, _⟩) ?zwF ?zwN ?zwx ?zwz ?zwb ?_; (case zwF => k_asm); (case zwN => k_asm); (case zwx => assumption); (case zwz => omega); (case zwb => omega)); intro h' t' k' F' N'))
  k_with "eval BoolOp" => (k_here; k_dflt (refine' lv_or ?zwa ?_; (case zwa => exact fun _ _ hb9 => nameX_L (by k_asm) rfl hb9)))
  k_with "KswEnd nil" => refine Stop.mk ?_
  k_with "subscriptTail Name Name str int" => (k_here; k_dflt (refine' lv_item ?zwx ?zwz ?zwa ?zwb ?_; (case zwx => assumption); (case zwz => omega); (case zwa => omega); (case zwb => omega)))
  k_with "subscriptTail Name BinOp str int" => (k_here; k_dflt (refine' lv_itemN ?zwx ?zwz ?zwa ?zwb ?_; (case zwx => assumption); (case zwz => omega); (case zwa => omega); (case zwb => omega)))
  have : (Challenge.rw_rs0060_01 = Challenge.rw_rs0060_01 ∧ Mine.hd.heap_39 = Mine.hd.heap_39) := by k_fill; exact ⟨rfl, rfl⟩
  clear this
  have kMark := kstMark
  intro dp un gd cn cs a ccd cl outer A₀ base h₀ L m news s Q E B F X N T hk hP hdp hun hret
  refine wpAny_call ?_
  k_dflt ktr_enter
  k_with_none
  k_with "call builtin:list.extend" => (k_here; (with_reducible show wpAny _ _ (call (Value.builtin _) [Value.ref _, Value.ref _]) _ _ _); k_dflt (refine' my_extend ?zwF ?zwN ?zwU ?zwb ?zwi ?zwj ?zwz ?_; (case zwF => k_asm); (case zwN => k_asm); (case zwb => k_mem); (case zwU => (intro t'; k_upd)); (case zwi => assumption); (case zwj => assumption); (case zwz => (rw [sizeLine_eq]; omega))); intro k' h' F' N' i')
  k_with "call builtin:iter" => (k_here; (with_reducible show wpAny _ _ (call (Value.builtin "iter") [Value.ref _]) _ _ _); k_dflt (refine' my_iter ?zwF ?zwN ?zwm ?_; (case zwF => k_asm); (case zwN => k_asm); (case zwm => k_mem)); intro I' h' F' N' l1; (try k_lt l1))
  k_with "call type:list cons nil" => refine Stop.mk ?_
  k_with "exec For Name Call cons nil" => (k_here; (rename Fr _ _ _ _ => lF'); (with_unfolding_all refine' For_invVF lF' ?zwk1 ?zwk2 ?_; (case zwk1 => exact rfl); (case zwk2 => exact rfl); k_whole))
  k_with "pyIter ref" => refine Stop.mk ?_
  k_with "InvEndN" => refine Stop.mk ?_
  k_with "truthy str" => (k_here; first | (k_dflt (refine' lv_truthy ?zwx ?zwy ?zwz ?_; (case zwx => assumption); (case zwy => omega); (case zwz => omega)); intro kt') | (k_dflt (refine' lv_falsy ?zwx ?_; (case zwx => assumption)); intro kt'))
  k_with "exec While BoolOp cons nil" => refine Stop.mk ?_
  k_with "subscriptTail Name Slice str ref" => (k_here; first | (k_dflt (refine' lv_from (s := ⟨_, _, _, _, _⟩) ?zwF ?zwN ?zwx ?zwz ?zwa ?zwb ?_; (case zwF => k_asm); (case zwN => k_asm); (case zwx => assumption); (case zwz => omega); (case zwa => exact rfl); (case zwb => omega)); intro h' t' k' F' N') | (k_dflt (refine' lv_post (s := ⟨_, _, _, _, _⟩) ?zwF ?zwN ?zwx ?zwz ?zwb ?_; (case zwF => k_asm); (case zwN => k_asm); (case zwx => assumption); (case zwz => omega); (case zwb => omega)); intro h' t' k' F' N'))
  k_with "eval BoolOp" => (k_here; k_dflt (refine' lv_or ?zwa ?_; (case zwa => exact fun _ _ hb9 => nameX_L (by k_asm) rfl hb9)))
  k_with "KswEnd nil" => refine Stop.mk ?_
  k_with "subscriptTail Name Name str int" => (k_here; k_dflt (refine' lv_item ?zwx ?zwz ?zwa ?zwb ?_; (case zwx => assumption); (case zwz => omega); (case zwa => omega); (case zwb => omega)))
  k_with "subscriptTail Name BinOp str int" => (k_here; k_dflt (refine' lv_itemN ?zwx ?zwz ?zwa ?zwb ?_; (case zwx => assumption); (case zwz => omega); (case zwa => omega); (case zwb => omega)))
  k_steps
  · rename (x == y) = true => e
    rename News h₀ _ _ _ => nE
    exact end0 hret (by assumption) nE (by walk_at "sub") ⟨rfl, _, _, rfl, fun _ => rfl, fun h => absurd (beq_iff_eq.mp e) h⟩
  refine Stop.go ?_
  rename (x == y) = false => hne
  have hne' : x ≠ y := beq_eq_false_iff_ne.mp hne
  k_dflt (refine' ksw_while (σ := Nat × Tok) (fun _ => news) (fun c => [(Str.ofString "pre", .int (c.1 : Int) c.2)]) (fun _ => True) [] (fun c => c.1 ≤ n ∧ x.cps.toList.take c.1 = y.cps.toList.take c.1) (fun c => n - c.1) (0, ?tk) ?F ?N ?hf ?hk ?hp ?turn ?hE)
  (case N => k_asm)
  (case F => k_asm)
  (case hf => exact trivial)
  (case hk => (intro p hp; simp only [List.mem_singleton] at hp; subst hp; rfl))
  (case hp => exact ⟨Nat.zero_le _, rfl⟩)
  (case hE => passes_own)
  intro c kU kH kTk kFacts kInv kFr kNews
  obtain ⟨k9, tk9⟩ := c
  dsimp only [kstB] at kFacts kInv kFr kNews
  obtain ⟨hk9, he9⟩ := kInv
  have hkn : k9 < n := by
    rcases Nat.lt_or_ge k9 n with h | h
    · exact h
    · exfalso
      have l1 := str_len x
      have l2 := str_len y
      rw [List.take_of_length_le (by omega), List.take_of_length_le (by omega)] at he9
      refine hne' ?_
      cases x; cases y
      congr 1
      exact Array.toList_inj.mp he9
  have hcx : (cut x k9 (n - k9)).length = n - k9 := cut_len (by omega)
  have hcy : (cut y k9 (n - k9)).length = n - k9 := cut_len (by omega)
  (try dsimp only); (try k_fold)
  k_with_none
  k_with "call builtin:list.extend" => (k_here; (with_reducible show wpAny _ _ (call (Value.builtin _) [Value.ref _, Value.ref _]) _ _ _); k_dflt (refine' my_extend ?zwF ?zwN ?zwU ?zwb ?zwi ?zwj ?zwz ?_; (case zwF => k_asm); (case zwN => k_asm); (case zwb => k_mem); (case zwU => (intro t'; k_upd)); (case zwi => assumption); (case zwj => assumption); (case zwz => (rw [sizeLine_eq]; omega))); intro k' h' F' N' i')
  k_with "call builtin:iter" => (k_here; (with_reducible show wpAny _ _ (call (Value.builtin "iter") [Value.ref _]) _ _ _); k_dflt (refine' my_iter ?zwF ?zwN ?zwm ?_; (case zwF => k_asm); (case zwN => k_asm); (case zwm => k_mem)); intro I' h' F' N' l1; (try k_lt l1))
  k_with "call type:list cons nil" => refine Stop.mk ?_
  k_with "exec For Name Call cons nil" => (k_here; (rename Fr _ _ _ _ => lF'); (with_unfolding_all refine' For_invVF lF' ?zwk1 ?zwk2 ?_; (case zwk1 => exact rfl); (case zwk2 => exact rfl); k_whole))
  k_with "pyIter ref" => refine Stop.mk ?_
  k_with "InvEndN" => refine Stop.mk ?_
  k_with "truthy str" => (k_here; first | (k_dflt (refine' lv_truthy ?zwx ?zwy ?zwz ?_; (case zwx => assumption); (case zwy => omega); (case zwz => omega)); intro kt') | (k_dflt (refine' lv_falsy ?zwx ?_; (case zwx => assumption)); intro kt'))
  k_with "exec While BoolOp cons nil" => refine Stop.mk ?_
  k_with "subscriptTail Name Slice str ref" => (k_here; first | (k_dflt (refine' lv_from (s := ⟨_, _, _, _, _⟩) ?zwF ?zwN ?zwx ?zwz ?zwa ?zwb ?_; (case zwF => k_asm); (case zwN => k_asm); (case zwx => assumption); (case zwz => omega); (case zwa => exact rfl); (case zwb => omega)); intro h' t' k' F' N') | (k_dflt (refine' lv_post (s := ⟨_, _, _, _, _⟩) ?zwF ?zwN ?zwx ?zwz ?zwb ?_; (case zwF => k_asm); (case zwN => k_asm); (case zwx => assumption); (case zwz => omega); (case zwb => omega)); intro h' t' k' F' N'))
  k_with "eval BoolOp" => (k_here; k_dflt (refine' lv_or ?zwa ?_; (case zwa => exact fun _ _ hb9 => nameX_L (by k_asm) rfl hb9)))
  k_with "KswEnd nil" => refine Stop.mk ?_
  k_with "subscriptTail Name Name str int" => (k_here; k_dflt (refine' lv_item ?zwx ?zwz ?zwa ?zwb ?_; (case zwx => assumption); (case zwz => omega); (case zwa => omega); (case zwb => omega)))
  k_with "subscriptTail Name BinOp str int" => (k_here; k_dflt (refine' lv_itemN ?zwx ?zwz ?zwa ?zwb ?_; (case zwx => assumption); (case zwz => omega); (case zwa => omega); (case zwb => omega)))
  k_steps
  · refine Stop.go ?_
    rename News _ _ _ _ => nE
    rename (({ cps := #[_] } : Str) == { cps := #[_] }) = true => eq9
    rw [one_eq] at eq9
    have eq8 : x.cps.toList.getD k9 0 = y.cps.toList.getD k9 0 := of_decide_eq_true eq9
    exact ksw_end ⟨k9 + 1, _⟩ (by assumption) nE (by walk_at "subs") trivial (by intro p hp; simp only [List.mem_singleton] at hp; subst hp; rfl) (by ksw_same) ⟨hkn, take_more he9 eq8 (by rw [← str_len]; omega) (by rw [← str_len]; omega)⟩ (by dsimp only; omega)
  refine Stop.go ?_
  rename (({ cps := #[_] } : Str) == { cps := #[_] }) = false => eq9
  rw [one_eq] at eq9
  have eq8 : x.cps.toList.getD k9 0 ≠ y.cps.toList.getD k9 0 := of_decide_eq_false eq9
  clear eq9
  k_dflt (refine' ksw_while (σ := Nat × Tok) (fun _ => news) (fun c => [(Str.ofString "post", .int (-(c.1 : Int)) c.2)]) (fun _ => True) [] (fun c => c.1 < n - k9 ∧ x.cps.toList.drop (n - c.1) = y.cps.toList.drop (n - c.1)) (fun c => n - k9 - c.1) (0, ?tkB) ?FB ?NB ?hfB ?hkB ?hpB ?turnB ?hEB)
  (case NB => k_asm)
  (case FB => k_asm)
  (case hfB => exact trivial)
  (case hkB => (intro p hp; simp only [List.mem_singleton] at hp; subst hp; rfl))
  (case hpB => exact ⟨by dsimp only; omega, by dsimp only; rw [List.drop_of_length_le (by rw [← str_len]; omega), List.drop_of_length_le (by rw [← str_len]; omega)]⟩)
  (case hEB => passes_own)
  intro c kUB kHB kTkB kFactsB kInvB kFrB kNewsB
  obtain ⟨q9, tq9⟩ := c
  dsimp only [kstB] at kFactsB kInvB kFrB kNewsB
  obtain ⟨hq9, hd9⟩ := kInvB
  have hcu : (cut (cut x k9 (n - k9)) 0 (n - k9 - q9)).length = n - k9 - q9 := cut_len (by rw [hcx]; omega)
  have hcv : (cut (cut y k9 (n - k9)) 0 (n - k9 - q9)).length = n - k9 - q9 := cut_len (by rw [hcy]; omega)
  (try dsimp only); (try k_fold)
  k_with_none
  k_with "call builtin:list.extend" => (k_here; (with_reducible show wpAny _ _ (call (Value.builtin _) [Value.ref _, Value.ref _]) _ _ _); k_dflt (refine' my_extend ?zwF ?zwN ?zwU ?zwb ?zwi ?zwj ?zwz ?_; (case zwF => k_asm); (case zwN => k_asm); (case zwb => k_mem); (case zwU => (intro t'; k_upd)); (case zwi => assumption); (case zwj => assumption); (case zwz => (rw [sizeLine_eq]; omega))); intro k' h' F' N' i')
  k_with "call builtin:iter" => (k_here; (with_reducible show wpAny _ _ (call (Value.builtin "iter") [Value.ref _]) _ _ _); k_dflt (refine' my_iter ?zwF ?zwN ?zwm ?_; (case zwF => k_asm); (case zwN => k_asm); (case zwm => k_mem)); intro I' h' F' N' l1; (try k_lt l1))
  k_with "call type:list cons nil" => refine Stop.mk ?_
  k_with "exec For Name Call cons nil" => (k_here; (rename Fr _ _ _ _ => lF'); (with_unfolding_all refine' For_invVF lF' ?zwk1 ?zwk2 ?_; (case zwk1 => exact rfl); (case zwk2 => exact rfl); k_whole))
  k_with "pyIter ref" => refine Stop.mk ?_
  k_with "InvEndN" => refine Stop.mk ?_
  k_with "truthy str" => (k_here; first | (k_dflt (refine' lv_truthy ?zwx ?zwy ?zwz ?_; (case zwx => assumption); (case zwy => omega); (case zwz => omega)); intro kt') | (k_dflt (refine' lv_falsy ?zwx ?_; (case zwx => assumption)); intro kt'))
  k_with "exec While BoolOp cons nil" => refine Stop.mk ?_
  k_with "subscriptTail Name Slice str ref" => (k_here; first | (k_dflt (refine' lv_from (s := ⟨_, _, _, _, _⟩) ?zwF ?zwN ?zwx ?zwz ?zwa ?zwb ?_; (case zwF => k_asm); (case zwN => k_asm); (case zwx => assumption); (case zwz => omega); (case zwa => exact rfl); (case zwb => omega)); intro h' t' k' F' N') | (k_dflt (refine' lv_post (s := ⟨_, _, _, _, _⟩) ?zwF ?zwN ?zwx ?zwz ?zwb ?_; (case zwF => k_asm); (case zwN => k_asm); (case zwx => assumption); (case zwz => omega); (case zwb => omega)); intro h' t' k' F' N'))
  k_with "eval BoolOp" => (k_here; k_dflt (refine' lv_or ?zwa ?_; (case zwa => exact fun _ _ hb9 => nameX_L (by k_asm) rfl hb9)))
  k_with "KswEnd nil" => refine Stop.mk ?_
  k_with "subscriptTail Name Name str int" => (k_here; k_dflt (refine' lv_item ?zwx ?zwz ?zwa ?zwb ?_; (case zwx => assumption); (case zwz => omega); (case zwa => omega); (case zwb => omega)))
  k_with "subscriptTail Name BinOp str int" => (k_here; k_dflt (refine' lv_itemN ?zwx ?zwz ?zwa ?zwb ?_; (case zwx => assumption); (case zwz => omega); (case zwa => omega); (case zwb => omega)))
  k_steps
  · refine Stop.go ?_
    have ei : (-(q9 : Int) - 1 + ((n - k9 : Nat) : Int)).toNat = n - k9 - q9 - 1 := by
      clear hcx hcy hcu hcv hx hy hn hdp hun
      omega
    rename News _ _ _ _ => nE
    rename (({ cps := #[_] } : Str) == { cps := #[_] }) = true => eq9
    rw [one_eq, ei, cut_getD (by omega), cut_getD (by omega)] at eq9
    clear ei
    have eq7 : x.cps.toList.getD (k9 + (n - k9 - q9 - 1)) 0 = y.cps.toList.getD (k9 + (n - k9 - q9 - 1)) 0 := of_decide_eq_true eq9
    have hq8 : q9 + 1 < n - k9 := by
      rcases Nat.lt_or_ge (q9 + 1) (n - k9) with h | h
      · exact h
      · exfalso
        rw [show k9 + (n - k9 - q9 - 1) = k9 by omega] at eq7
        exact eq8 eq7
    rw [show k9 + (n - k9 - q9 - 1) = n - (q9 + 1) by omega] at eq7
    exact ksw_end ⟨q9 + 1, _⟩ (by assumption) nE (by walk_at "subs") trivial (by intro p hp; simp only [List.mem_singleton] at hp; subst hp; exact congrArg (fun z => some (Value.int z _)) (show (-(q9 : Int) - 1) = -((q9 + 1 : Nat) : Int) by omega)) (by ksw_same)
      ⟨hq8, drop_more (by rw [show n - (q9 + 1) + 1 = n - q9 by omega]; exact hd9) eq7 (by rw [← str_len]; omega) (by rw [← str_len]; omega)⟩ (by dsimp only; omega)
  refine Stop.go ?_
  generalize hm9 : n - k9 - q9 = m9 at *
  have hm0 : 0 < m9 := by omega
  have hm6 : m9 ≤ 6 := by omega
  have hsum : n = k9 + q9 + m9 := by omega
  clear hm9 hq9 hcx hcy
  k_dflt (refine' lv_listRange (n := m9) ?rh ?rF ?rN ?rr ?rs ?rn ?rl ?_; (case rh => rfl); (case rF => k_asm); (case rN => k_asm); (case rr => assumption); (case rs => rw [hcu]; exact (rs2 hm0 hm6).1); (case rn => rw [hcu]; exact (rs2 hm0 hm6).2); (case rl => omega))
  intro D9 cc9 hD9 tkD vs9 FD ND ltD iD
  (try dsimp only); (try k_fold)
  k_with_none
  k_with "call builtin:list.extend" => (k_here; (with_reducible show wpAny _ _ (call (Value.builtin _) [Value.ref _, Value.ref _]) _ _ _); k_dflt (refine' my_extend ?zwF ?zwN ?zwU ?zwb ?zwi ?zwj ?zwz ?_; (case zwF => k_asm); (case zwN => k_asm); (case zwb => k_mem); (case zwU => (intro t'; k_upd)); (case zwi => assumption); (case zwj => assumption); (case zwz => (rw [sizeLine_eq]; omega))); intro k' h' F' N' i')
  k_with "call builtin:iter" => (k_here; (with_reducible show wpAny _ _ (call (Value.builtin "iter") [Value.ref _]) _ _ _); k_dflt (refine' my_iter ?zwF ?zwN ?zwm ?_; (case zwF => k_asm); (case zwN => k_asm); (case zwm => k_mem)); intro I' h' F' N' l1; (try k_lt l1))
  k_with "call type:list cons nil" => refine Stop.mk ?_
  k_with "exec For Name Call cons nil" => (k_here; (rename Fr _ _ _ _ => lF'); (with_unfolding_all refine' For_invVF lF' ?zwk1 ?zwk2 ?_; (case zwk1 => exact rfl); (case zwk2 => exact rfl); k_whole))
  k_with "pyIter ref" => refine Stop.mk ?_
  k_with "InvEndN" => refine Stop.mk ?_
  k_with "truthy str" => (k_here; first | (k_dflt (refine' lv_truthy ?zwx ?zwy ?zwz ?_; (case zwx => assumption); (case zwy => omega); (case zwz => omega)); intro kt') | (k_dflt (refine' lv_falsy ?zwx ?_; (case zwx => assumption)); intro kt'))
  k_with "exec While BoolOp cons nil" => refine Stop.mk ?_
  k_with "subscriptTail Name Slice str ref" => (k_here; first | (k_dflt (refine' lv_from (s := ⟨_, _, _, _, _⟩) ?zwF ?zwN ?zwx ?zwz ?zwa ?zwb ?_; (case zwF => k_asm); (case zwN => k_asm); (case zwx => assumption); (case zwz => omega); (case zwa => exact rfl); (case zwb => omega)); intro h' t' k' F' N') | (k_dflt (refine' lv_post (s := ⟨_, _, _, _, _⟩) ?zwF ?zwN ?zwx ?zwz ?zwb ?_; (case zwF => k_asm); (case zwN => k_asm); (case zwx => assumption); (case zwz => omega); (case zwb => omega)); intro h' t' k' F' N'))
  k_with "eval BoolOp" => (k_here; k_dflt (refine' lv_or ?zwa ?_; (case zwa => exact fun _ _ hb9 => nameX_L (by k_asm) rfl hb9)))
  k_with "KswEnd nil" => refine Stop.mk ?_
  k_with "subscriptTail Name Name str int" => (k_here; k_dflt (refine' lv_item ?zwx ?zwz ?zwa ?zwb ?_; (case zwx => assumption); (case zwz => omega); (case zwa => omega); (case zwb => omega)))
  k_with "subscriptTail Name BinOp str int" => (k_here; k_dflt (refine' lv_itemN ?zwx ?zwz ?zwa ?zwb ?_; (case zwx => assumption); (case zwz => omega); (case zwa => omega); (case zwb => omega)))
  k_with "call ref" => (k_dflt (refine' Spec.use (c_sub w mean mg mb _ _ _ _ rfl rfl) ?k1 ?k2 ?k3 ?k4 ?k5 ?k6 ?k7 ?k8 ?k9 ?_); (case k1 => k_asm); (case k2 => k_asm); (case k3 => k_asm); (case k4 => k_asm); (case k5 => k_asm); (case k6 => exact rfl); (case k7 => exact trivial); (case k8 => ktr_room); (case k9 => ktr_units); intro r9 tl9 h9 tk9 F9 N9 g9 p9; obtain ⟨rfl, t9, hr9⟩ := p9; rw [hCc] at hr9; subst hr9; clear g9; simp only [List.nil_append] at N9; (try dsimp only); (try k_fold))
  k_steps
  refine Stop.go ?_
  obtain ⟨C, hCd⟩ : ∃ C : Nat → Nat → Int, C = fun i j => subN (y.cps.toList.getD (k9 + i) 0) (x.cps.toList.getD (k9 + j) 0) := ⟨_, rfl⟩
  have hC : ∀ i j, i < m9 → j < m9 → subF ⟨#[(cut (cut y k9 (n - k9)) 0 m9).cps.toList.getD i 0]⟩ ⟨#[(cut (cut x k9 (n - k9)) 0 m9).cps.toList.getD j 0]⟩ = C i j := by
    intro i j hi hj
    rw [hCd, cut_getD hi, cut_getD hj, cut_getD (by omega), cut_getD (by omega), Nat.zero_add, Nat.zero_add]
    rfl
  k_dflt (refine' kst_range (σ := LS) (n := m9) (fun c => (D9, listOf c.vs.toArray c.k) :: news) (fun c => [(Str.ofString "result", .int c.st.res c.t)]) (fun c => IntsAre c.vs c.st.row ∧ c.st.row.length = m9) [Str.ofString "bchar", Str.ofString "distance", Str.ofString "minimum", Str.ofString "index", Str.ofString "substitute", Str.ofString "insert_delete"] (fun pre c => tabF' m9 C pre.length = some (c.st.row, c.st.res)) ⟨vs9, cc9, ⟨(List.range m9).map (fun i : Nat => 2 + (i : Int) * 2), 0, 0, 0⟩, ?tC, 0, 0⟩ ?hhC ?hrC ?hsC ?hnC ?FC ?NC ?hfC ?hkC ?hpC ?turnC ?doneC)
  (case NC => k_asm)
  (case hhC => rfl)
  (case hrC => assumption)
  (case hsC => rw [hcv]; exact (rs1 hm0 hm6).1)
  (case hnC => rw [hcv]; exact (rs1 hm0 hm6).2)
  (case FC => k_asm)
  (case hfC => exact ⟨iD, by simp⟩)
  (case hkC => (intro p hp; simp only [List.mem_singleton] at hp; subst hp; rfl))
  (case hpC => rfl)
  · intro c pre kN kT kU3 kH3 kTk3 own3 kEq kLt kOff3 kFacts3 kInv3 kFr3 kNews3
    rw [Int.zero_add] at kEq
    subst kEq
    obtain ⟨vsC, kC, ⟨rowC, dC, resC, leC⟩, tC, t2C, t3C⟩ := c
    dsimp only [kstB] at kFacts3 kInv3 kFr3 kNews3 kOff3
    obtain ⟨iC, lC⟩ := kFacts3
    simp only [List.cons_append] at kNews3
    (try dsimp only); (try k_fold)
    k_steps
    refine Stop.go ?_
    obtain ⟨i9, hi9⟩ : ∃ i9, i9 = pre.length := ⟨_, rfl⟩
    k_dflt (refine' kst_range (σ := LS) (n := m9) (fun c => (D9, listOf c.vs.toArray c.k) :: (news ++ own3)) (fun c => [(Str.ofString "distance", .int c.st.dist c.t2), (Str.ofString "result", .int c.st.res c.t), (Str.ofString "minimum", .int c.st.least c.t3)]) (fun c => IntsAre c.vs c.st.row ∧ c.st.row.length = m9) [Str.ofString "substitute", Str.ofString "insert_delete"] (fun pre2 c => c.st = (List.range pre2.length).foldl (cellStep (C pre.length)) ⟨rowC, (pre.length : Int) * 2, (pre.length : Int) * 2, 9223372036854775807⟩) ⟨vsC, kC, ⟨rowC, (pre.length : Int) * 2, (pre.length : Int) * 2, 9223372036854775807⟩, ?tE1, ?tE2, ?tE3⟩ ?hhE ?hrE ?hsE ?hnE ?FE ?NE ?hfE ?hkE ?hpE ?turnE ?doneE)
    (case NE => k_asm)
    (case hhE => rfl)
    (case hrE => assumption)
    (case hsE => rw [hcu]; exact (rs1 hm0 hm6).1)
    (case hnE => rw [hcu]; exact (rs1 hm0 hm6).2)
    (case FE => k_asm)
    (case hfE => exact ⟨iC, lC⟩)
    (case hkE => (intro p hp; simp only [List.mem_cons, List.not_mem_nil, or_false] at hp; rcases hp with hp | hp | hp <;> (subst hp; rfl)))
    (case hpE => rfl)
    · intro c pre2 kN2 kT2 kU4 kH4 kTk4 own4 kEq2 kLt2 kOff4 kFacts4 kInv4 kFr4 kNews4
      rw [Int.zero_add] at kEq2
      subst kEq2
      obtain ⟨vsE, kE, ⟨rowE, dE, resE, leE⟩, tE, t2E, t3E⟩ := c
      dsimp only [kstB] at kFacts4 kInv4 kFr4 kNews4 kOff4
      obtain ⟨iE, lE⟩ := kFacts4
      simp only [List.cons_append] at kNews4
      have hCc : subF ⟨#[(cut (cut y k9 (n - k9)) 0 m9).cps.toList.getD ((pre.length : Nat) : Int).toNat 0]⟩ ⟨#[(cut (cut x k9 (n - k9)) 0 m9).cps.toList.getD ((pre2.length : Nat) : Int).toNat 0]⟩ = C pre.length pre2.length := hC _ _ kLt kLt2
      (try dsimp only); (try k_fold)
      k_steps
      · refine Stop.go ?_
        rename News _ _ _ _ => nE
        rename _ < leE => hlt9
        exact kst_end ⟨_, _, ⟨_, _, _, _⟩, _, _, _⟩ (by assumption) nE (by walk_at "subs") (by walk_at "subs") rfl ⟨by assumption, by rw [List.length_set]; exact lE⟩ (List.forall_mem_cons.mpr ⟨rfl, List.forall_mem_cons.mpr ⟨rfl, List.forall_mem_cons.mpr ⟨rfl, fun _ h => nomatch h⟩⟩⟩) (by kst_same)
          (by rw [List.length_append, List.length_singleton, List.range_succ, List.foldl_append, ← kInv4]; exact (cell_lt hlt9).symm)
      · refine Stop.go ?_
        rename News _ _ _ _ => nE
        rename ¬ _ < leE => hlt9
        exact kst_end ⟨_, _, ⟨_, _, _, _⟩, _, _, _⟩ (by assumption) nE (by walk_at "subs") (by walk_at "subs") rfl ⟨by assumption, by rw [List.length_set]; exact lE⟩ (List.forall_mem_cons.mpr ⟨rfl, List.forall_mem_cons.mpr ⟨rfl, List.forall_mem_cons.mpr ⟨rfl, fun _ h => nomatch h⟩⟩⟩) (by kst_same)
          (by rw [List.length_append, List.length_singleton, List.range_succ, List.foldl_append, ← kInv4]; exact (cell_ge hlt9).symm)
    · intro c kU4 kH4 kTk4 kFacts4 kInv4 kFr4 kNews4
      obtain ⟨vsE, kE, ⟨rowE, dE, resE, leE⟩, tE, t2E, t3E⟩ := c
      dsimp only [kstB] at kFacts4 kInv4 kFr4 kNews4
      obtain ⟨iE, lE⟩ := kFacts4
      have hrow : (⟨rowE, dE, resE, leE⟩ : RowSt) = rowF m9 (C pre.length) pre.length rowC := by rw [kInv4, rangeKs_length]; rfl
      have hnext : tabF' m9 C (pre.length + 1) = if leE > 4 then none else some (rowE, resE) := by
        show (tabF' m9 C pre.length).bind _ = _
        rw [kInv3]
        show (if (rowF m9 (C pre.length) pre.length rowC).least > 4 then none else some ((rowF m9 (C pre.length) pre.length rowC).row, (rowF m9 (C pre.length) pre.length rowC).res)) = _
        rw [← hrow]
      k_steps
      · rename News h₀ _ _ _ => nE
        rename 4 < leE => hlt9
        rw [if_pos hlt9] at hnext
        exact end0 hret (by assumption) nE (by walk_at "subs") ⟨rfl, _, _, rfl, fun h => absurd h hne', fun _ => ⟨k9, m9, hm0, by omega, he9, by rw [show k9 + m9 = n - q9 by omega]; exact hd9, fun row res h => by
          have q := tab_none hnext (m9 - (pre.length + 1))
          rw [show pre.length + 1 + (m9 - (pre.length + 1)) = m9 by omega, hCd] at q
          rw [q] at h
          cases h⟩⟩
      · refine Stop.go ?_
        rename News _ _ _ _ => nE
        rename ¬ 4 < leE => hlt9
        rw [if_neg hlt9] at hnext
        exact kst_end ⟨vsE, kE, ⟨rowE, dE, resE, leE⟩, _, 0, 0⟩ (by assumption) nE (by walk_at "subs") (by walk_at "subs") rfl ⟨iE, lE⟩ (List.forall_mem_cons.mpr ⟨rfl, fun _ h => nomatch h⟩) (by kst_same)
          (by rw [List.length_append, List.length_singleton]; exact hnext)
  · intro c kU3 kH3 kTk3 kFacts3 kInv3 kFr3 kNews3
    obtain ⟨vsC, kC, ⟨rowC, dC, resC, leC⟩, tC, t2C, t3C⟩ := c
    dsimp only [kstB] at kFacts3 kInv3 kFr3 kNews3
    rw [rangeKs_length] at kInv3
    k_steps
    rename News h₀ _ _ _ => nE
    exact end0 hret (by assumption) nE (by walk_at "sub") ⟨rfl, _, _, rfl, fun h => absurd h hne', fun _ => ⟨k9, m9, hm0, by omega, he9, by rw [show k9 + m9 = n - q9 by omega]; exact hd9, fun row res h => by
      rw [hCd] at kInv3
      rw [kInv3] at h
      cases h
      rfl⟩⟩
end

end
section
open PySem PySem.W PySem.Spec PySem.Calls PyProof.Rows PyProof.Rows.LCg PyProof.Rows.LCt
section
variable {prog : Program} {w : World} {A : Around} {E : Value → Shared → Prop} {s : Shared} {h₀ : Heap} {L : Addr} {m : Str → Option Value} {env : Env}
noncomputable def OffK (I C K D : Addr) (nw : List (Addr × Obj)) : Prop := ∀ p ∈ nw, @Ne Nat p.1 I ∧ @Ne Nat p.1 C ∧ @Ne Nat p.1 K ∧ @Ne Nat p.1 D
theorem nn1 {a D : Nat} (h : a < D) : a ≠ D ∧ a ≠ D + 1 ∧ a ≠ D + 1 + 1 ∧ D ≠ a ∧ D + 1 ≠ a ∧ D + 1 + 1 ≠ a := by omega
theorem nn2 {D : Nat} : D ≠ D + 1 ∧ D ≠ D + 1 + 1 ∧ D + 1 ≠ D + 1 + 1 ∧ D + 1 ≠ D ∧ D + 1 + 1 ≠ D ∧ D + 1 + 1 ≠ D + 1 ∧ D ≤ D + 1 ∧ D ≤ D + 1 + 1 := by omega
/-- the end of a turn of a comprehension whose letter is a cell -/
noncomputable def EndK (h₀ : Heap) (L : Addr) (m : Str → Option Value) (s₁ : Shared) (I : Addr) (oI : Obj) (C : Addr) (oC : Obj) (K : Addr) (oK : Obj) (D : Addr) (S : List (Addr × Obj) → Prop) (rest : Obj → List (Addr × Obj) → Prop) (s₂ : Shared) : Prop :=
  ∃ h' tk o' nw', s₂ = { s₁ with heap := h', toks := tk } ∧ Fr h₀ L h' m ∧ News h₀ L h' ((I, oI) :: (C, oC) :: (K, oK) :: (D, o') :: nw') ∧ OffK I C K D nw' ∧ S nw' ∧ rest o' nw'
theorem cenv_cell {scope : Scope} {cl : List (Str × Addr)} {x : Str} {Q : Env → Shared → Prop} (hcf : ∀ k, cellsFrom k scope.names cl = (x, k) :: cl) (hpc : ∀ h, pushCells h scope.names = h.push { cls := .type "cell", data := .cell none })
    (h : ∀ cenv : Env, { cenv with scope := relabel scope env } = compEnvC scope ((x, s.heap.objs.size + 1) :: cl) s.heap.objs.size env → cenv.locals = s.heap.objs.size → Q cenv { s with heap := (s.heap.push { cls := .type "dict", data := .dict #[] }).push { cls := .type "cell", data := .cell none } }) :
    wpAny (model prog w) A (newFunctionEnv scope env.globals cl [] env.qual none .none (some env)) Q E s := by
  simp only [newFunctionEnv, Option.isSome_some, if_true]
  refine wpAny_bind (wpAny_alloc ?_)
  refine wpAny_bind (wpAny_layCells _ (fun name kind cells => by cases hkc : kind == NameKind.cell <;> simp [hkc]) _ _ _ _ ?_)
  rw [hcf, hpc]
  refine wpAny_bind ?_
  rw [List.forIn_nil]
  refine wpAny_pure (wpAny_pure (h _ ?_ rfl))
  unfold compEnvC
  simp only [Heap.size_push]
theorem block_K {e : Expr} {x : Str} {px : Pos} {scope : Scope} {cl : List (Str × Addr)} {s₂ : Shared} {I : Addr} {fp : List Addr} {n : Nat} {P : Nat → Value → Prop} {St : Nat → Heap → Prop} {S : List (Addr × Obj) → Prop} {news : List (Addr × Obj)} {newAcc : Sem Value} {o₀ : Obj}
    {RR : Value → Addr → Result → Shared → Prop} (Body : Value → Env → (Result → Shared → Prop) → (Shared → Prop) → Shared → Prop) (J : Nat → Obj → List (Addr × Obj) → Prop)
    (hloop : ∀ (it : Value) (D : Addr) (cenv : Env) (R : Result → Shared → Prop) (Iv : Nat → Shared → Prop),
      (∀ n s, Iv n s → wpAny (model prog w) A (pyNext it) (fun r s₁ => match r with
        | none => R (.ok .next) s₁
        | some v => wpAny (model prog w) A (assign (.Name x px) cenv v) (fun _ s₂ => Body (.ref D) cenv R (fun s' => ∃ m, m < n ∧ Iv m s') s₂) (notedBy (model prog w) A cenv fun e s' => R (.error e) s') s₁) (notedBy (model prog w) A cenv fun e s' => R (.error e) s') s) →
      ∀ n s, Iv n s → codeAny (model prog w) A (.compLoop e 0 it (.ref D) cenv) R s)
    (hstart : ∀ (it acc : Value) (cenv : Env) (R : Result → Shared → Prop) (s : Shared), codeAny (model prog w) A (.compLoop e 0 it acc cenv) R s →
      wpAny (model prog w) A (pyIter it) (fun it' s' => codeAny (model prog w) A (.compLoop e 0 it' acc cenv) R s') (notedBy (model prog w) A cenv fun e s' => R (.error e) s') s → codeAny (model prog w) A (.compStart e 0 it acc cenv) R s)
    (hmono : ∀ acc cenv R (k k' : Shared → Prop) s, (∀ s, k s → k' s) → Body acc cenv R k s → Body acc cenv R k' s)
    (hfree : o₀.isFreed = false) (hacc : ∀ (Q : Value → Shared → Prop) (E : Value → Shared → Prop) (s : Shared), Q (.ref s.heap.objs.size) { s with heap := s.heap.push o₀ } → wpAny (model prog w) A newAcc Q E s)
    (W : Walks prog w A I fp [I] n P St) (hIo : ∀ i h, St i h → ∃ o, h.get? I = some o)
    (hSt : ∀ i h h' o nw, St i h → h.get? I = some o → h'.get? I = some o → (∀ b o, h₀.get? b = some o → h'.get? b = some o) → News h₀ L h' nw → S nw → St i h')
    (hcf : ∀ k, cellsFrom k scope.names cl = (x, k) :: cl) (hpc : ∀ h, pushCells h scope.names = h.push { cls := .type "cell", data := .cell none })
    (hkind : scope.kind = .function) (hxk : ∀ C K, Env.kindOf (compEnvC scope ((x, K) :: cl) C env) x = some .cell) (hst : St 0 s₂.heap) (hfp : ∀ b ∈ fp, b < s₂.heap.objs.size)
    (F : Fr h₀ L s₂.heap m) (N : News h₀ L s₂.heap news) (hIL : L ≠ I) (hI₀ : h₀.get? I = none) (off : ∀ p ∈ news, p.1 ≠ I) (hS : S news)
    (hJ : J 0 o₀ news)
    (step : ∀ i o nw, i < n → J i o nw → ∀ v I oI C oC K oK D h tk R, P i v → oK.data = .cell (some v) → Fr h₀ L h m → News h₀ L h ((I, oI) :: (C, oC) :: (K, oK) :: (D, o) :: nw) → OffK I C K D nw → (@Ne Nat I C ∧ @Ne Nat I K ∧ @Ne Nat I D ∧ @Ne Nat C K ∧ @Ne Nat C D ∧ @Ne Nat K D) → (∀ p ∈ news, p.1 < D) →
      Body (.ref D) (compEnvC scope ((x, K) :: cl) C env) R (EndK h₀ L m { s₂ with heap := h, toks := tk } I oI C oC K oK D S (J (i + 1))) { s₂ with heap := h, toks := tk })
    (hRR : ∀ D C h tk m' o nw, D = s₂.heap.objs.size → Fr h₀ L h m → News h₀ L h ((D, o) :: nw) → (∀ p ∈ nw, @Ne Nat p.1 D) → (∀ p ∈ news, p.1 < D) → h.Ns C m' → h₀.get? C = none → C ≠ L → C ≠ D → (∀ p ∈ nw, p.1 ≠ C) → J n o nw → RR (.ref D) C (.ok .next) { s₂ with heap := h, toks := tk }) :
    wpAny (model prog w) A newAcc (fun acc s₃ => wpAny (model prog w) A (newFunctionEnv scope env.globals cl [] env.qual none .none (some env)) (fun cenv s₄ =>
      codeAny (model prog w) A (.compStart e 0 (.ref I) acc { cenv with scope := relabel scope env }) (RR acc cenv.locals) s₄) E s₃) E s₂ := by
  refine hacc _ _ _ (cenv_cell hcf hpc fun cenv ec el => ?_)
  rw [ec, el]
  dsimp only
  have hC : (s₂.heap.push o₀).objs.size = s₂.heap.objs.size + 1 := Heap.size_push ..
  rw [hC]
  generalize hD : s₂.heap.objs.size = D
  generalize hH : ((s₂.heap.push o₀).push { cls := .type "dict", data := .dict #[] }).push { cls := .type "cell", data := .cell none } = H
  have z1 : (s₂.heap.push o₀).get? D = some o₀ := hD ▸ Heap.get?_push_size _ hfree
  have z2 : ((s₂.heap.push o₀).push { cls := .type "dict", data := .dict #[] }).get? (D + 1) = some { cls := .type "dict", data := .dict #[] } := by
    have := Heap.get?_push_size (s₂.heap.push o₀) (o := { cls := .type "dict", data := .dict #[] }) rfl
    rwa [hC, hD] at this
  have z3 : H.get? (D + 1 + 1) = some { cls := .type "cell", data := .cell none } := by
    have := Heap.get?_push_size ((s₂.heap.push o₀).push { cls := .type "dict", data := .dict #[] }) (o := { cls := .type "cell", data := .cell none }) rfl
    rw [Heap.size_push, hC, hD, hH] at this
    exact this
  have old : ∀ b o, s₂.heap.get? b = some o → H.get? b = some o := fun b o q => hH ▸ Heap.get?_push_of_some _ (Heap.get?_push_of_some _ (Heap.get?_push_of_some _ q))
  have zD : H.get? D = some o₀ := hH ▸ Heap.get?_push_of_some _ (Heap.get?_push_of_some _ z1)
  have zC : H.get? (D + 1) = some { cls := .type "dict", data := .dict #[] } := hH ▸ Heap.get?_push_of_some _ z2
  have low : ∀ b o, s₂.heap.get? b = some o → b < D := fun b o q => hD ▸ Heap.lt_size q
  have fresh₀ : ∀ a, D ≤ a → h₀.get? a = none := fun a ha => by
    cases q : h₀.get? a with
    | none => rfl
    | some o' => exact absurd (low _ _ (F.keep a o' q)) (Nat.not_lt.mpr ha)
  have hLD : L < D := hD ▸ F.ns.lt
  have hID : I < D := hD ▸ hfp I (W.sub I (List.mem_singleton.mpr rfl))
  have hfD : ∀ b ∈ fp, b < D := fun b hb => hD ▸ hfp b hb
  have ltD : ∀ p ∈ news, p.1 < D := fun p hp => low _ _ (N p hp).1
  have ns0 : H.Ns (D + 1) (fun _ => none) := ⟨_, _, _, zC, rfl, by unfold StrKeys; simp, fun _ => rfl⟩
  have aL := @nn1 L D hLD
  have aI := @nn1 I D hID
  have aD := @nn2 D
  have off0 : OffK I (D + 1) (D + 1 + 1) D news := fun p hp => by
    have := @nn1 p.1 D (ltD p hp)
    exact ⟨off p hp, this.2.1, this.2.2.1, this.1⟩
  have N0 : News h₀ L H ((D + 1 + 1, { cls := .type "cell", data := .cell none }) :: (D, o₀) :: news) := fun p hp => by
    rcases List.mem_cons.mp hp with rfl | hp
    · exact ⟨z3, aL.2.2.2.2.2, fresh₀ _ aD.2.2.2.2.2.2.2⟩
    · rcases List.mem_cons.mp hp with rfl | hp
      · exact ⟨zD, aL.2.2.2.1, fresh₀ _ (Nat.le_refl _)⟩
      · exact ⟨old _ _ (N p hp).1, (N p hp).2⟩
  have st0 : St 0 H := W.frame _ _ _ hst fun b _ o q => old b o q
  have loop : codeAny (model prog w) A (.compLoop e 0 (.ref I) (.ref D) (compEnvC scope ((x, D + 1 + 1) :: cl) (D + 1) env)) (RR (.ref D) (D + 1)) { s₂ with heap := H } := by
    refine hloop (.ref I) D _ _
      (fun k s' => ∃ h' tk i m' oK cv o nw, s' = { s₂ with heap := h', toks := tk } ∧ i ≤ n ∧ k = n + 1 - i ∧ St i h' ∧ Fr h₀ L h' m ∧ h'.Ns (D + 1) m' ∧ oK.data = .cell cv ∧ News h₀ L h' ((D + 1 + 1, oK) :: (D, o) :: nw) ∧
        OffK I (D + 1) (D + 1 + 1) D nw ∧ S nw ∧ J i o nw) ?_ (n + 1) _
      ⟨H, s₂.toks, 0, _, _, _, o₀, news, rfl, Nat.zero_le _, rfl, st0, F.keeps old, ns0, rfl, N0, off0, hS, hJ⟩
    rintro k s' ⟨h', tk, i, m', oK, cv, o, nw, rfl, hi, rfl, st, F', ns', hoK, N', off', hS', hJ'⟩
    by_cases hlt : i < n
    · refine W.item i _ _ _ hlt st fun v h₂ tk₂ hPv st₂ kp => ?_
      have nI : ∀ b o, b ≠ I → h'.get? b = some o → h₂.get? b = some o := fun b o hb q => kp b o (by simpa using hb) q
      have cK : h₂.IsCell (D + 1 + 1) cv := ⟨oK, nI _ _ aI.2.2.2.2.2 (N' _ (.head _)).1, hoK⟩
      refine wpAny_assign_Name (wpAny_storeName_cell (by simp [compEnvC, relabel, hkind]) (hxk _ _) (by simp [compEnvC]) cK fun h₃ cK₃ sb => ?_)
      obtain ⟨oK₃, eK₃, dK₃⟩ := cK₃
      have st₃ : St (i + 1) h₃ := W.frame _ _ _ st₂ fun b hb o q => sb.extBut b o (@nn1 b D (hfD b hb)).2.2.1 q
      obtain ⟨oI, eI⟩ := hIo _ _ st₃
      have ns₃ : h₃.Ns (D + 1) m' := (ns'.at' fun o q => nI _ o aI.2.2.2.2.1 q).at' fun o q => sb.extBut _ o aD.2.2.1 q
      obtain ⟨oC, eC, hoC⟩ := ns_obj ns₃
      have F₃ : Fr h₀ L h₃ m := (fr_but F' kp hIL hI₀).change sb aL.2.2.2.2.2 (fresh₀ _ aD.2.2.2.2.2.2.2)
      have N₃ : News h₀ L h₃ ((I, oI) :: (D + 1, oC) :: (D + 1 + 1, oK₃) :: (D, o) :: nw) := fun p hp => by
        simp only [List.mem_cons] at hp
        rcases hp with rfl | rfl | rfl | rfl | hp
        · exact ⟨eI, Ne.symm hIL, hI₀⟩
        · exact ⟨eC, aL.2.2.2.2.1, fresh₀ _ aD.2.2.2.2.2.2.1⟩
        · exact ⟨eK₃, aL.2.2.2.2.2, fresh₀ _ aD.2.2.2.2.2.2.2⟩
        · have z := N' (D, o) (.tail _ (.head _))
          exact ⟨sb.extBut _ _ aD.2.1 (nI _ _ aI.2.2.2.1 z.1), z.2⟩
        · have z := N' p (.tail _ (.tail _ hp))
          exact ⟨sb.extBut _ _ (off' p hp).2.2.1 (nI _ _ (off' p hp).1 z.1), z.2⟩
      refine hmono _ _ _ _ _ _ ?_ (step i o nw hlt hJ' v I oI (D + 1) oC (D + 1 + 1) oK₃ D h₃ _ _ hPv dK₃ F₃ N₃ off' ⟨aI.2.1, aI.2.2.1, aI.1, aD.2.2.1, aD.2.2.2.1, aD.2.2.2.2.1⟩ ltD)
      rintro _ ⟨h₄, tk₄, o₄, nw₄, rfl, F₄, N₄, off₄, hS₄, hJ₄⟩
      have N₄' : News h₀ L h₄ nw₄ := fun p hp => N₄ p (.tail _ (.tail _ (.tail _ (.tail _ hp))))
      refine ⟨n + 1 - (i + 1), by omega, h₄, tk₄, i + 1, m', oK₃, some v, o₄, nw₄, rfl, hlt, rfl, hSt _ _ _ _ _ st₃ eI (N₄ _ (.head _)).1 F₄.keep N₄' hS₄, F₄, hoC.ns (N₄ _ (.tail _ (.head _))).1, dK₃, fun p hp => N₄ p (.tail _ (.tail _ hp)), off₄, hS₄, hJ₄⟩
    · obtain rfl : i = n := Nat.le_antisymm hi (Nat.not_lt.mp hlt)
      refine W.done _ _ _ st fun h₂ tk₂ kp => ?_
      have nI : ∀ b o, b ≠ I → h'.get? b = some o → h₂.get? b = some o := fun b o hb q => kp b o (by simpa using hb) q
      refine hRR D (D + 1) h₂ tk₂ m' o nw hD.symm (fr_but F' kp hIL hI₀) (fun p hp => ?_) (fun p hp => (off' p hp).2.2.2) ltD (ns'.at' fun o q => nI _ o aI.2.2.2.2.1 q) (fresh₀ _ aD.2.2.2.2.2.2.1) aL.2.2.2.2.1 aD.2.2.2.1 (fun p hp => (off' p hp).2.1) hJ'
      have z := N' p (.tail _ hp)
      refine ⟨nI _ _ ?_ z.1, z.2⟩
      rcases List.mem_cons.mp hp with rfl | hp
      · exact aI.2.2.2.1
      · exact (off' p hp).1
  exact hstart _ _ _ _ _ loop (W.self 0 _ _ _ st0 loop)
end

end
section
open PySem PySem.W PySem.Spec PySem.Calls PyProof.Rows PyProof.Rows.LCg PyProof.Rows.LCt
section
variable {prog : Program} {w : World} {A : Around} {E : Value → Shared → Prop} {s : Shared} {h₀ : Heap} {L : Addr} {m : Str → Option Value} {env : Env}
noncomputable abbrev Ne6 (I C K D : Addr) : Prop := @Ne Nat I C ∧ @Ne Nat I K ∧ @Ne Nat I D ∧ @Ne Nat C K ∧ @Ne Nat C D ∧ @Ne Nat K D
/-- a source of a list comprehension whose letter is a cell: a list of the ledger -/
noncomputable def SrcLK (prog : Program) (w : World) (A : Around) (h₀ : Heap) (L : Addr) (m : Str → Option Value) (env : Env) (elt : Expr) (x : Str) (scope : Scope) (cl : List (Str × Addr)) (Q : Value → Shared → Prop) (xv : Value) (s₁ : Shared) : Prop :=
  ∃ (ax : Addr) (its : Array Value) (k : Nat) (news : List (Addr × Obj)) (J : Nat → List Value → List (Addr × Obj) → Prop), xv = .ref ax ∧ A.handled = none ∧ Fr h₀ L s₁.heap m ∧ News h₀ L s₁.heap news ∧ (ax, listOf its k) ∈ news ∧ its.size ≤ sizeLine ∧ J 0 [] news ∧
    (∀ i ys nw, i < its.size → J i ys nw → ∀ v I oI C oC K oK D h tk E' g, its[i]? = some v → oK.data = .cell (some v) → Fr h₀ L h m → News h₀ L h ((I, oI) :: (C, oC) :: (K, oK) :: (D, lst ys) :: nw) → OffK I C K D nw → Ne6 I C K D → (∀ p ∈ news, p.1 < D) →
      wpAny (model prog w) A (eval elt (compEnvC scope ((x, K) :: cl) C env)) (fun y => EndK h₀ L m { s₁ with heap := g, toks := tk } I oI C oC K oK D (fun nw' => (ax, listOf its k) ∈ nw') (fun o' nw' => o' = lst ys ∧ J (i + 1) (ys ++ [y]) nw')) E' { s₁ with heap := h, toks := tk }) ∧
    (∀ D h tk ys nw, J its.size ys nw → Fr h₀ L h m → News h₀ L h ((D, lst ys) :: nw) → (∀ p ∈ nw, @Ne Nat p.1 D) → (∀ p ∈ news, p.1 < D) → Q (.ref D) { s₁ with heap := h, toks := tk })
theorem endK_any {s₁ s₂ : Shared} {I C K D : Addr} {oI oC oK : Obj} {S : List (Addr × Obj) → Prop} {r : Obj → List (Addr × Obj) → Prop} {h h' : Heap} {tk tk' : Nat} (x : EndK h₀ L m { s₁ with heap := h, toks := tk } I oI C oC K oK D S r s₂) : EndK h₀ L m { s₁ with heap := h', toks := tk' } I oI C oC K oK D S r s₂ := x
/-- one more item on the list of a turn -/
theorem endK_append {s₁ s₄ : Shared} {I C K D : Addr} {oI oC oK : Obj} {S : List (Addr × Obj) → Prop} {ys : List Value} {y : Value} {r : List Value → List (Addr × Obj) → Prop} {E' : Value → Shared → Prop}
    (ne : Ne6 I C K D) (hsz : ys.length ≤ sizeLine) (x : EndK h₀ L m s₁ I oI C oC K oK D S (fun o' nw' => o' = lst ys ∧ r (ys ++ [y]) nw') s₄) :
    wpAny (model prog w) A (call (.builtin "list.append") [.ref D, y]) (fun _ s₅ => EndK h₀ L m s₁ I oI C oC K oK D S (fun o' nw' => ∃ zs, o' = lst zs ∧ r zs nw') s₅) E' s₄ := by
  obtain ⟨h', tk, o', nw', rfl, F', N', off, hS, rfl, hr⟩ := x
  have zD := N' (D, lst ys) (.tail _ (.tail _ (.tail _ (.head _))))
  refine append_at (hsz := by show ys.toArray.size ≤ sizeLine; rw [List.size_toArray]; exact hsz) zD.1 fun h₅ sb e5 => ?_
  refine ⟨h₅, tk, lst (ys ++ [y]), nw', rfl, F'.change sb zD.2.1 zD.2.2, fun p hp => ?_, off, hS, _, rfl, hr⟩
  simp only [List.mem_cons] at hp
  rcases hp with rfl | rfl | rfl | rfl | hp
  · have z := N' (I, oI) (.head _)
    exact ⟨sb.extBut _ _ ne.2.2.1 z.1, z.2⟩
  · have z := N' (C, oC) (.tail _ (.head _))
    exact ⟨sb.extBut _ _ ne.2.2.2.2.1 z.1, z.2⟩
  · have z := N' (K, oK) (.tail _ (.tail _ (.head _)))
    exact ⟨sb.extBut _ _ ne.2.2.2.2.2 z.1, z.2⟩
  · exact ⟨e5.trans (congrArg some (lst_snoc ys y)), zD.2⟩
  · have z := N' p (.tail _ (.tail _ (.tail _ (.tail _ hp))))
    exact ⟨sb.extBut _ _ (off p hp).2.2.2 z.1, z.2⟩
theorem newList_acc (Q E' : Value → Shared → Prop) (s : Shared) (h : Q (.ref s.heap.objs.size) { s with heap := s.heap.push (lst []) }) : wpAny (model prog w) A (newList []) Q E' s := wpAny_newObj_type h
theorem ListComp_K {elt iter : Expr} {x : Str} {px : Pos} {scope : Scope} {cl : List (Str × Addr)} {pos : Pos} {Q : Value → Shared → Prop} (F₀ : Fr h₀ L s.heap m)
    (hclos : closureFor scope env = pure cl) (hcf : ∀ k, cellsFrom k scope.names cl = (x, k) :: cl) (hpc : ∀ h, pushCells h scope.names = h.push { cls := .type "cell", data := .cell none }) (hkind : scope.kind = .function)
    (hnames : ∀ y ∈ scope.names, y.2 = .local → scope.names.lookup y.1 = some .local) (hxk : ∀ C K, Env.kindOf (compEnvC scope ((x, K) :: cl) C env) x = some .cell)
    (h : wpAny (model prog w) A (eval iter env) (SrcLK prog w A h₀ L m env elt x scope cl Q) E s)
    (hs : ∀ x, foldedSetIterable iter env x = pure x := by intro _; rfl) :
    wpAny (model prog w) A (eval (.ListComp elt [⟨.Name x px, iter, [], 0⟩] scope pos) env) Q E s := by
  rw [eval_ListComp]
  refine wpAny_comprehension_free (use := none) rfl hs hclos hkind hnames (wpAny_mono h (fun xv s₁ h₁ => ?_) fun _ _ e => e)
  obtain ⟨ax, its, k, news, J, rfl, hh, F, N, hm, hsz, hJ0, step, fin⟩ := h₁
  have hol : s₁.heap.get? ax = some (listOf its k) := (N _ hm).1
  have hl : s₁.heap.IsList ax its := ⟨_, hol, rfl, k, rfl⟩
  have hlt : ax < s₁.heap.objs.size := Heap.lt_size hol
  have up : ∀ b o, s₁.heap.get? b = some o → (s₁.heap.push { cls := .type "list_iterator", data := .fields #[.ref ax, .int 0 0] }).get? b = some o := fun b o e => Heap.get?_push_of_some _ e
  refine wpAny_pyIter_list hl ?_
  refine block_K (o₀ := lst []) (S := fun nw => (ax, listOf its k) ∈ nw) (px := px)
    (fun acc cenv R kk s' => wpAny (model prog w) A (eval elt cenv) (fun y s₄ => wpAny (model prog w) A (call (.builtin "list.append") [acc, y]) (fun _ s₅ => kk s₅) (notedBy (model prog w) A cenv fun e s' => R (.error e) s') s₄) (notedBy (model prog w) A cenv fun e s' => R (.error e) s') s')
    (fun i o nw => ∃ ys, o = lst ys ∧ ys.length = i ∧ J i ys nw) ?_ ?_ ?_ rfl newList_acc (Walks.list hh s₁.heap.objs.size ax (Nat.ne_of_lt hlt) its) (fun i h st => by obtain ⟨o, e, _⟩ := st.1; exact ⟨o, e⟩) ?_ hcf hpc hkind hxk ⟨⟨_, Heap.get?_push_size _ rfl, rfl, rfl⟩, hl.push _⟩ (fun b hb => ?_) (F.keeps up) (N.grown up) (Nat.ne_of_lt F.ns.lt) (next_is_new F) (fun p hp => Nat.ne_of_lt (Heap.lt_size (N p hp).1)) hm ⟨[], rfl, rfl, hJ0⟩ ?_ ?_
  · intro it D cenv R Iv turn n s hI
    exact codeAny_compLoop_list Iv turn n hI
  · intro it acc cenv R s h0 h1
    exact codeAny_compStart_list h0 h1
  · intro acc cenv R kk kk' s hk hb
    exact wpAny_mono hb (fun y s₄ h4 => wpAny_mono h4 (fun _ s₅ h5 => hk s₅ h5) fun _ _ e => e) fun _ _ e => e
  · intro i h h' o nw st e e' kp N' hS
    obtain ⟨o', q, r⟩ := st.1
    rw [e] at q
    cases q
    exact ⟨⟨o, e', r⟩, ⟨_, (N' _ hS).1, rfl, k, rfl⟩⟩
  · show b < (s₁.heap.push _).objs.size
    rw [Heap.size_push]
    simp only [List.mem_cons, List.not_mem_nil, or_false] at hb
    rcases hb with rfl | rfl
    · exact Nat.lt_succ_self _
    · exact Nat.lt_succ_of_lt hlt
  · rintro i o nw hi ⟨ys, rfl, hyl, hJ⟩ v I oI C oC K oK D h tk R hP hoK F' N' off ne lt
    refine wpAny_mono (step i ys nw hi hJ v I oI C oC K oK D h tk _ h hP hoK F' N' off ne lt) (fun y s₄ q => ?_) fun _ _ e => e
    obtain ⟨h', tk', o', nw', e, F₂, N₂, o2, hS, rfl, hJ'⟩ := q
    have hlen : ys.length ≤ sizeLine := by rw [hyl]; exact Nat.le_trans (Nat.le_of_lt hi) hsz
    exact endK_append (ys := ys) (r := fun zs nw' => zs.length = i + 1 ∧ J (i + 1) zs nw') ne hlen ⟨h', tk', lst ys, nw', e, F₂, N₂, o2, hS, rfl, by rw [List.length_append, hyl]; rfl, hJ'⟩
  · rintro D C h tk m' o nw _ F' N' off lt ns hC₀ hCL hCD offC ⟨ys, rfl, hyl, hJ⟩
    refine ⟨m', ns, fun h'' hs'' => fin D h'' tk ys nw hJ (F'.change hs'' hCL hC₀) (fun p hp => ?_) off lt⟩
    refine ⟨hs''.extBut _ _ ?_ (N' p hp).1, (N' p hp).2⟩
    rcases List.mem_cons.mp hp with rfl | hp
    · exact Ne.symm hCD
    · exact offC p hp
end

end
section
open PySem PySem.W PySem.Spec PySem.Calls PyProof.Rows PyProof.Rows.LCg PyProof.Rows.LCt
section
variable {prog : Program} {w : World} {A : Around} {E : Value → Shared → Prop} {s : Shared} {h₀ : Heap} {L : Addr} {m : Str → Option Value} {env : Env}
noncomputable def DSo (prog : Program) (w : World) (o : Obj) (c : List (Str × Int)) : Prop := ∃ kvs, o.IsDictOf (PySem.strKind prog w) kvs ∧ PyProof.V.FlatPairs PyData.str kvs (kdpD c)
/-- a source of a dict comprehension whose letter is a cell: a list of the ledger -/
noncomputable def SrcDK (prog : Program) (w : World) (A : Around) (h₀ : Heap) (L : Addr) (m : Str → Option Value) (env : Env) (kx vx : Expr) (x : Str) (scope : Scope) (cl : List (Str × Addr)) (Q : Value → Shared → Prop) (xv : Value) (s₁ : Shared) : Prop :=
  ∃ (ax : Addr) (its : Array Value) (k : Nat) (news : List (Addr × Obj)) (J : Nat → List (Str × Int) → List (Addr × Obj) → Prop), xv = .ref ax ∧ A.handled = none ∧ Fr h₀ L s₁.heap m ∧ News h₀ L s₁.heap news ∧ (ax, listOf its k) ∈ news ∧ its.size ≤ 16777216 ∧ J 0 [] news ∧
    (∀ i c nw, i < its.size → J i c nw → ∀ v I oI C oC K oK D o h tk E' g, its[i]? = some v → oK.data = .cell (some v) → Fr h₀ L h m → News h₀ L h ((I, oI) :: (C, oC) :: (K, oK) :: (D, o) :: nw) → OffK I C K D nw → Ne6 I C K D → (∀ p ∈ news, p.1 < D) →
      wpAny (model prog w) A (eval kx (compEnvC scope ((x, K) :: cl) C env)) (fun kv s₄ => wpAny (model prog w) A (eval vx (compEnvC scope ((x, K) :: cl) C env)) (fun vv s₅ => ∃ y t e u, kv = .str y t ∧ vv = .int e u ∧
        EndK h₀ L m { s₁ with heap := g, toks := tk } I oI C oC K oK D (fun nw' => (ax, listOf its k) ∈ nw') (fun o' nw' => o' = o ∧ J (i + 1) (kdpPut c y e) nw') s₅) E' s₄) E' { s₁ with heap := h, toks := tk }) ∧
    (∀ D o h tk c nw, J its.size c nw → DSo prog w o c → Fr h₀ L h m → News h₀ L h ((D, o) :: nw) → (∀ p ∈ nw, @Ne Nat p.1 D) → (∀ p ∈ news, p.1 < D) → (D == sysModules) = false → Q (.ref D) { s₁ with heap := h, toks := tk })
theorem endK_put {s₁ s₄ : Shared} {I C K D : Addr} {oI oC oK o : Obj} {S : List (Addr × Obj) → Prop} {c : List (Str × Int)} {y : Str} {t : Tok} {e : Int} {u : Tok} {r : List (Addr × Obj) → Prop} {E' : Value → Shared → Prop}
    (ne : Ne6 I C K D) (hd : DSo prog w o c) (hsz : c.length ≤ 16777216) (x : EndK h₀ L m s₁ I oI C oC K oK D S (fun o' nw' => o' = o ∧ r nw') s₄) :
    wpAny (model prog w) A (dictSet D (.str y t) (.int e u)) (fun _ s₅ => EndK h₀ L m s₁ I oI C oC K oK D S (fun o' nw' => DSo prog w o' (kdpPut c y e) ∧ r nw') s₅) E' s₄ := by
  obtain ⟨h', tk, o', nw', rfl, F', N', off, hS, rfl, hr⟩ := x
  obtain ⟨kvs, hd1, hf1⟩ := hd
  have zD := N' (D, o') (.tail _ (.tail _ (.tail _ (.head _))))
  have hlen : kvs.length ≤ sizeLine := by rw [← hf1.length, kdpD_length, sizeLine_eq]; exact hsz
  refine wpAny_dictSet_pairs (k := y) (hsz := hlen) (strKind_is _ _ _ _) (Heap.dictOf_iff.mpr ⟨o', zD.1, hd1⟩) fun h₅ hd5 sb => ?_
  obtain ⟨o5, e5, hd5'⟩ := Heap.dictOf_iff.mp hd5
  refine ⟨h₅, _, o5, nw', rfl, F'.change sb zD.2.1 zD.2.2, fun p hp => ?_, off, hS, ⟨_, hd5', ?_⟩, hr⟩
  · simp only [List.mem_cons] at hp
    rcases hp with rfl | rfl | rfl | rfl | hp
    · have z := N' (I, oI) (.head _)
      exact ⟨sb.extBut _ _ ne.2.2.1 z.1, z.2⟩
    · have z := N' (C, oC) (.tail _ (.head _))
      exact ⟨sb.extBut _ _ ne.2.2.2.2.1 z.1, z.2⟩
    · have z := N' (K, oK) (.tail _ (.tail _ (.head _)))
      exact ⟨sb.extBut _ _ ne.2.2.2.2.2 z.1, z.2⟩
    · exact ⟨e5, zD.2⟩
    · have z := N' p (.tail _ (.tail _ (.tail _ (.tail _ hp))))
      exact ⟨sb.extBut _ _ (off p hp).2.2.2 z.1, z.2⟩
  · have := PyProof.V.FlatPairs.stored PyProof.V.same_str hf1 y (PyProof.V.Flat.int e u)
    rw [kdpD_put] at this
    exact this
theorem newDict_acc (Q E' : Value → Shared → Prop) (s : Shared) (h : Q (.ref s.heap.objs.size) { s with heap := s.heap.push { cls := .type "dict", data := .dict #[] } }) : wpAny (model prog w) A newDict Q E' s := wpAny_newObj_type h
theorem ds_new : DSo prog w { cls := .type "dict", data := .dict #[] } [] := by
  obtain ⟨o, ho, hd⟩ := Heap.dictOf_iff.mp (Heap.DictOf.new (knd := PySem.strKind prog w) ({} : Heap))
  rw [Heap.get?_push_size _ rfl] at ho
  exact ⟨[], (Option.some.inj ho) ▸ hd, .nil⟩
theorem DictComp_K {kx vx iter : Expr} {x : Str} {px : Pos} {scope : Scope} {cl : List (Str × Addr)} {pos : Pos} {Q : Value → Shared → Prop} (F₀ : Fr h₀ L s.heap m) (hbig : sysModules < h₀.objs.size)
    (hclos : closureFor scope env = pure cl) (hcf : ∀ k, cellsFrom k scope.names cl = (x, k) :: cl) (hpc : ∀ h, pushCells h scope.names = h.push { cls := .type "cell", data := .cell none }) (hkind : scope.kind = .function)
    (hnames : ∀ y ∈ scope.names, y.2 = .local → scope.names.lookup y.1 = some .local) (hxk : ∀ C K, Env.kindOf (compEnvC scope ((x, K) :: cl) C env) x = some .cell)
    (h : wpAny (model prog w) A (eval iter env) (SrcDK prog w A h₀ L m env kx vx x scope cl Q) E s)
    (hs : ∀ x, foldedSetIterable iter env x = pure x := by intro _; rfl) :
    wpAny (model prog w) A (eval (.DictComp kx vx [⟨.Name x px, iter, [], 0⟩] scope pos) env) Q E s := by
  rw [arm_eval_DictComp]
  refine wpAny_comprehension_free (use := none) rfl hs hclos hkind hnames (wpAny_mono h (fun xv s₁ h₁ => ?_) fun _ _ e => e)
  obtain ⟨ax, its, k, news, J, rfl, hh, F, N, hm, hsz, hJ0, step, fin⟩ := h₁
  have hol : s₁.heap.get? ax = some (listOf its k) := (N _ hm).1
  have hl : s₁.heap.IsList ax its := ⟨_, hol, rfl, k, rfl⟩
  have hlt : ax < s₁.heap.objs.size := Heap.lt_size hol
  have up : ∀ b o, s₁.heap.get? b = some o → (s₁.heap.push { cls := .type "list_iterator", data := .fields #[.ref ax, .int 0 0] }).get? b = some o := fun b o e => Heap.get?_push_of_some _ e
  refine wpAny_pyIter_list hl ?_
  refine block_K (o₀ := { cls := .type "dict", data := .dict #[] }) (S := fun nw => (ax, listOf its k) ∈ nw) (px := px)
    (fun acc cenv R kk s' => wpAny (model prog w) A (eval kx cenv) (fun kv s₄ => wpAny (model prog w) A (eval vx cenv) (fun vv s₅ => ∀ D, acc = .ref D → wpAny (model prog w) A (dictSet D kv vv) (fun _ s₆ => kk s₆) (notedBy (model prog w) A cenv fun e s' => R (.error e) s') s₅) (notedBy (model prog w) A cenv fun e s' => R (.error e) s') s₄) (notedBy (model prog w) A cenv fun e s' => R (.error e) s') s')
    (fun i o nw => ∃ c, DSo prog w o c ∧ c.length ≤ i ∧ J i c nw) ?_ ?_ ?_ rfl newDict_acc (Walks.list hh s₁.heap.objs.size ax (Nat.ne_of_lt hlt) its) (fun i h st => by obtain ⟨o, e, _⟩ := st.1; exact ⟨o, e⟩) ?_ hcf hpc hkind hxk ⟨⟨_, Heap.get?_push_size _ rfl, rfl, rfl⟩, hl.push _⟩ (fun b hb => ?_) (F.keeps up) (N.grown up) (Nat.ne_of_lt F.ns.lt) (next_is_new F) (fun p hp => Nat.ne_of_lt (Heap.lt_size (N p hp).1)) hm ⟨[], ds_new, Nat.zero_le _, hJ0⟩ ?_ ?_
  · intro it D cenv R Iv turn n s hI
    refine codeAny_compLoop_testsD Iv (fun n s hI => wpAny_mono (turn n s hI) (fun r s₁ q => ?_) fun _ _ e => e) n hI
    cases r with
    | none => exact q
    | some v =>
      refine wpAny_mono q (fun _ s₂ q2 => wpAny_tests_nil ?_) fun _ _ e => e
      simp only [if_true]
      exact wpAny_mono q2 (fun kv s₄ q4 => wpAny_mono q4 (fun vv s₅ q5 => q5 D rfl) fun _ _ e => e) fun _ _ e => e
  · intro it acc cenv R s h0 h1
    exact codeAny_compStart_dict h0 h1
  · intro acc cenv R kk kk' s hk hb
    exact wpAny_mono hb (fun kv s₄ h4 => wpAny_mono h4 (fun vv s₅ h5 D e => wpAny_mono (h5 D e) (fun _ s₆ h6 => hk s₆ h6) fun _ _ e => e) fun _ _ e => e) fun _ _ e => e
  · intro i h h' o nw st e e' kp N' hS
    obtain ⟨o', q, r⟩ := st.1
    rw [e] at q
    cases q
    exact ⟨⟨o, e', r⟩, ⟨_, (N' _ hS).1, rfl, k, rfl⟩⟩
  · show b < (s₁.heap.push _).objs.size
    rw [Heap.size_push]
    simp only [List.mem_cons, List.not_mem_nil, or_false] at hb
    rcases hb with rfl | rfl
    · exact Nat.lt_succ_self _
    · exact Nat.lt_succ_of_lt hlt
  · rintro i o nw hi ⟨c, hd, hcl, hJ⟩ v I oI C oC K oK D h tk R hP hoK F' N' off ne lt
    refine wpAny_mono (step i c nw hi hJ v I oI C oC K oK D o h tk _ h hP hoK F' N' off ne lt) (fun kv s₄ q => wpAny_mono q (fun vv s₅ q5 => ?_) fun _ _ e => e) fun _ _ e => e
    obtain ⟨y, t, e, u, rfl, rfl, q6⟩ := q5
    intro D' eD
    cases eD
    refine wpAny_mono (endK_put ne hd (by omega) q6) (fun _ s₆ q7 => ?_) fun _ _ e => e
    obtain ⟨h', tk', o', nw', e', F₂, N₂, o2, hS, hd', hJ'⟩ := q7
    exact ⟨h', tk', o', nw', e', F₂, N₂, o2, hS, _, hd', Nat.le_trans (kdpPut_len c y e) (Nat.succ_le_succ hcl), hJ'⟩
  · rintro D C h tk m' o nw hDe F' N' off lt ns hC₀ hCL hCD offC ⟨c, hd, hcl, hJ⟩
    have loD : (D == sysModules) = false := by
      refine beq_eq_false_iff_ne.mpr ?_
      rw [hDe]
      have h1 : h₀.objs.size ≤ L := F.above
      have h2 : L < (s₁.heap.push { cls := .type "list_iterator", data := .fields #[.ref ax, .int 0 0] }).objs.size := (F.push _).ns.lt
      exact Nat.ne_of_gt (Nat.lt_trans hbig (Nat.lt_of_le_of_lt h1 h2))
    refine ⟨m', ns, fun h'' hs'' => fin D o h'' tk c nw hJ hd (F'.change hs'' hCL hC₀) (fun p hp => ?_) off lt loD⟩
    refine ⟨hs''.extBut _ _ ?_ (N' p hp).1, (N' p hp).2⟩
    rcases List.mem_cons.mp hp with rfl | hp
    · exact Ne.symm hCD
    · exact offC p hp
theorem endK_fix {S : List (Addr × Obj) → Prop} {s₁ : Shared} {I C K D : Addr} {oI oC oK o : Obj} {h' : Heap} {tk : Nat} {news all : List (Addr × Obj)} {J : Prop}
    (F : Fr h₀ L h' m) (N : News h₀ L h' all) (sub : ∀ p ∈ (I, oI) :: (C, oC) :: (K, oK) :: (D, o) :: news, p ∈ all) (off : OffK I C K D news) (hS : S news) (hJ : J) :
    EndK h₀ L m s₁ I oI C oC K oK D S (fun o' nw' => o' = o ∧ nw' = news ∧ J) { s₁ with heap := h', toks := tk } := ⟨h', tk, o, news, rfl, F, fun p hp => N p (sub p hp), off, hS, rfl, rfl, hJ⟩
theorem srcDK_fix {kx vx : Expr} {x : Str} {scope : Scope} {cl : List (Str × Addr)} {Q : Value → Shared → Prop} {ax : Addr} {its : Array Value} {k : Nat} {news : List (Addr × Obj)} {s₁ : Shared} (J : Nat → List (Str × Int) → Prop)
    (hh : A.handled = none) (F : Fr h₀ L s₁.heap m) (N : News h₀ L s₁.heap news) (hm : (ax, listOf its k) ∈ news) (hsz : its.size ≤ 16777216) (hJ0 : J 0 [])
    (step : ∀ i c, i < its.size → J i c → ∀ v I oI C oC K oK D o h tk E' g, its[i]? = some v → oK.data = .cell (some v) → Fr h₀ L h m → News h₀ L h ((I, oI) :: (C, oC) :: (K, oK) :: (D, o) :: news) → OffK I C K D news → Ne6 I C K D →
      wpAny (model prog w) A (eval kx (compEnvC scope ((x, K) :: cl) C env)) (fun kv s₄ => wpAny (model prog w) A (eval vx (compEnvC scope ((x, K) :: cl) C env)) (fun vv s₅ => ∃ y t e u, kv = .str y t ∧ vv = .int e u ∧
        EndK h₀ L m { s₁ with heap := g, toks := tk } I oI C oC K oK D (fun nw' => (ax, listOf its k) ∈ nw') (fun o' nw' => o' = o ∧ nw' = news ∧ J (i + 1) (kdpPut c y e)) s₅) E' s₄) E' { s₁ with heap := h, toks := tk })
    (fin : ∀ D o h tk c, J its.size c → DSo prog w o c → Fr h₀ L h m → News h₀ L h ((D, o) :: news) → (∀ p ∈ news, p.1 < D) → (D == sysModules) = false → Q (.ref D) { s₁ with heap := h, toks := tk }) :
    SrcDK prog w A h₀ L m env kx vx x scope cl Q (.ref ax) s₁ :=
  ⟨ax, its, k, news, fun i c nw => nw = news ∧ J i c, rfl, hh, F, N, hm, hsz, ⟨rfl, hJ0⟩, (by
    rintro i c nw hi ⟨rfl, hJ⟩ v I oI C oC K oK D o h tk E' g a1 a2 a3 a4 a5 a6 _
    exact step i c hi hJ v I oI C oC K oK D o h tk E' g a1 a2 a3 a4 a5 a6), (by
    rintro D o h tk c nw ⟨rfl, hJ⟩ hd F' N' off lt lo
    exact fin D o h tk c hJ hd F' N' lt lo)⟩
theorem srcLK_fix {elt : Expr} {x : Str} {scope : Scope} {cl : List (Str × Addr)} {Q : Value → Shared → Prop} {ax : Addr} {its : Array Value} {k : Nat} {news : List (Addr × Obj)} {s₁ : Shared} (J : Nat → List Value → Prop)
    (hh : A.handled = none) (F : Fr h₀ L s₁.heap m) (N : News h₀ L s₁.heap news) (hm : (ax, listOf its k) ∈ news) (hsz : its.size ≤ sizeLine) (hJ0 : J 0 [])
    (step : ∀ i ys, i < its.size → J i ys → ∀ v I oI C oC K oK D h tk E' g, its[i]? = some v → oK.data = .cell (some v) → Fr h₀ L h m → News h₀ L h ((I, oI) :: (C, oC) :: (K, oK) :: (D, lst ys) :: news) → OffK I C K D news → Ne6 I C K D →
      wpAny (model prog w) A (eval elt (compEnvC scope ((x, K) :: cl) C env)) (fun y => EndK h₀ L m { s₁ with heap := g, toks := tk } I oI C oC K oK D (fun nw' => (ax, listOf its k) ∈ nw') (fun o' nw' => o' = lst ys ∧ nw' = news ∧ J (i + 1) (ys ++ [y]))) E' { s₁ with heap := h, toks := tk })
    (fin : ∀ D h tk ys, J its.size ys → Fr h₀ L h m → News h₀ L h ((D, lst ys) :: news) → (∀ p ∈ news, p.1 < D) → Q (.ref D) { s₁ with heap := h, toks := tk }) :
    SrcLK prog w A h₀ L m env elt x scope cl Q (.ref ax) s₁ :=
  ⟨ax, its, k, news, fun i ys nw => nw = news ∧ J i ys, rfl, hh, F, N, hm, hsz, ⟨rfl, hJ0⟩, (by
    rintro i ys nw hi ⟨rfl, hJ⟩ v I oI C oC K oK D h tk E' g a1 a2 a3 a4 a5 a6 _
    exact step i ys hi hJ v I oI C oC K oK D h tk E' g a1 a2 a3 a4 a5 a6), (by
    rintro D h tk ys nw ⟨rfl, hJ⟩ F' N' off lt
    exact fin D h tk ys hJ F' N' lt)⟩
end

end
section
open PySem PySem.W PySem.Spec PySem.Calls PyProof.Rows PyProof.Rows.LCg PyProof.Rows.LCt
set_option maxHeartbeats 0
set_option rowWalk.seconds 0
noncomputable def nameTab : List Str := [Str.ofString "OPTIMIZED", Str.ofString "NEWLOCALS", Str.ofString "VARARGS", Str.ofString "VARKEYWORDS", Str.ofString "NESTED", Str.ofString "GENERATOR", Str.ofString "NOFREE", Str.ofString "COROUTINE", Str.ofString "ITERABLE_COROUTINE", Str.ofString "ASYNC_GENERATOR", Str.ofString "0x400", Str.ofString "0x800"]
noncomputable def bitF (x : Int) (p : Nat) : Bool := decide ((x.fdiv (2 ^ p)).fmod 2 = 1)
noncomputable def partsF (sh x : Int) (n : Nat) : List Str := ((List.range n).filter (bitF x)).map fun p => nameTab.getD (sh.toNat + p) (Str.ofString "")
noncomputable def nmN (sh x : Int) : Str := Txt.join (Str.ofString ", ") (partsF sh x 4)
theorem parts_succ (sh x : Int) (n : Nat) : partsF sh x (n + 1) = partsF sh x n ++ (if bitF x n = true then [nameTab.getD (sh.toNat + n) (Str.ofString "")] else []) := by
  unfold partsF
  rw [List.range_succ, List.filter_append, List.map_append]
  congr 1
  by_cases h : bitF x n = true
  · rw [if_pos h, List.filter_cons, if_pos h]; rfl
  · rw [if_neg h, List.filter_cons, if_neg h]; rfl
theorem name_len (i : Nat) : (nameTab.getD i (Str.ofString "")).length ≤ 40 := by
  have key : ∀ i : Fin 12, (nameTab.getD i.val (Str.ofString "")).length ≤ 40 := by decide +kernel
  rcases Nat.lt_or_ge i 12 with h | h
  · exact key ⟨i, h⟩
  · rw [List.getD_eq_getElem?_getD, List.getElem?_eq_none (show nameTab.length ≤ i from h)]
    decide
theorem parts_size (sh x : Int) : ((partsF sh x 4).map (·.length)).sum + (partsF sh x 4).length * (Str.ofString ", ").length ≤ 16777216 := by
  have h1 : (partsF sh x 4).length ≤ 4 := by
    unfold partsF
    rw [List.length_map]
    exact Nat.le_trans (List.length_filter_le _ _) (by simp)
  have h2 : ∀ y ∈ partsF sh x 4, y.length ≤ 40 := by
    intro y hy
    unfold partsF at hy
    obtain ⟨p, _, rfl⟩ := List.mem_map.mp hy
    exact name_len _
  have h3 := sum_len h2
  have e : (Str.ofString ", ").length = 2 := by decide
  rw [e]
  omega
theorem strs_at : ∀ {vs : List Value} {ss : List Str}, StrsAre vs ss → ∀ {i : Nat}, i < ss.length → ∃ t, vs[i]? = some (.str (ss.getD i (Str.ofString "")) t)
  | _, _, .cons y t h, 0, _ => ⟨t, rfl⟩
  | _, _, .cons y t h, i + 1, hi => strs_at h (Nat.lt_of_succ_lt_succ hi)
section
variable {prog : Program} {w : World} {A : Around} {E : Value → Shared → Prop} {s : Shared} {h₀ : Heap} {L D : Addr} {m : Str → Option Value} {news : List (Addr × Obj)} {vs : Array Value} {ss : List Str} {i : Int} {u : Tok} {k : Nat}
theorem str_sub {value slice : PySem.Expr} {Q : Value → Shared → Prop} (N : News h₀ L s.heap news) (hm : (D, listOf vs k) ∈ news) (hi : StrsAre vs.toList ss) (h0 : 0 ≤ i) (h1 : i < ss.length) (hfit : i < 2 ^ 63) (h : ∀ t, Q (.str (ss.getD i.toNat (Str.ofString "")) t) s)
    (hs : subscripted slice false (.ref D) (.int i u) = operate [.ref D, .int i u] (getItem (.ref D) (.int i u)) := by with_unfolding_all rfl) :
    wpAny (model prog w) A (subscriptTail value slice (.ref D) (.int i u)) Q E s := by
  have hl : s.heap.IsList D vs := ⟨_, (N _ hm).1, rfl, k, rfl⟩
  obtain ⟨t, ht⟩ := strs_at hi (i := i.toNat) (by omega)
  exact tail_any hl.typeIs slot_list_getitem.lookup (wpAny_getItem_list hl h0 hfit (by rw [← Array.getElem?_toList]; exact ht) (h t)) hs
end
noncomputable def namedF (sh : Int) (xs : List Int) : List (Str × Int) := xs.foldl (fun c x => kdpPut c (nmN sh x) x) []
section
theorem c_named (w : World) (mean : ExcName → Option Value) (mg mb : Str → Option Value) (l : Addr) (vl : List Value) (xs : List Int) (k : Nat) (sh : Int) (u : Tok) (hI : IntsAre vl xs) (hx : ∀ x ∈ xs, 0 < x ∧ x < 16) (hlen : xs.length ≤ 16) (hs0 : 0 ≤ sh) (hs1 : sh < 9) :
    Spec w mean mg mb 93 9 [Value.ref l, Value.int sh u] (fun news => (l, listOf vl.toArray k) ∈ news) (fun tl r => ∃ a o, r = .ref a ∧ tl = [(a, o)] ∧ (a == sysModules) = false ∧ DS w o (namedF sh xs)) := by
  w_top off
  k_with_none
  k_with "call builtin:list.extend" => (k_here; (with_reducible show wpAny _ _ (call (Value.builtin _) [Value.ref _, Value.ref _]) _ _ _); k_dflt (refine' my_extend ?zwF ?zwN ?zwU ?zwb ?zwi ?zwj ?zwz ?_; (case zwF => k_asm); (case zwN => k_asm); (case zwb => k_mem); (case zwU => (intro t'; k_upd)); (case zwi => assumption); (case zwj => assumption); (case zwz => (rw [sizeLine_eq]; omega))); intro k' h' F' N' i')
  k_with "call builtin:iter" => (k_here; (with_reducible show wpAny _ _ (call (Value.builtin "iter") [Value.ref _]) _ _ _); k_dflt (refine' my_iter ?zwF ?zwN ?zwm ?_; (case zwF => k_asm); (case zwN => k_asm); (case zwm => k_mem)); intro I' h' F' N' l1; (try k_lt l1))
  k_with "eval DictComp Call Name cons" => (k_here; k_dflt (refine' DictComp_K ?zwkF ?zwkbig ?zwkclos ?zwkcf ?zwkpc ?zwkkind ?zwkn ?zwkxk ?_ ?zwks; (case zwkF => k_asm); (case zwkbig => exact modules_low (Top.nolimit (by assumption))); (case zwkclos => rfl); (case zwkcf => exact fun _ => rfl); (case zwkpc => exact fun _ => rfl); (case zwkkind => rfl); (case zwkn => decide); (case zwkxk => exact fun _ _ => rfl); (case zwks => intro _; rfl)))
  k_with "subscriptTail Name BinOp ref int" => (k_here; (with_reducible show wpAny _ _ (subscriptTail _ _ (Value.ref _) (Value.int _ _)) _ _ _); k_dflt (refine' str_sub (ss := nameTab) ?zwk1 ?zwk2 ?zwk3 ?zwk4 ?zwk5 ?zwk6 ?_ ?zwk7; (case zwk1 => k_asm); (case zwk2 => k_mem); (case zwk3 => exact .cons _ _ (.cons _ _ (.cons _ _ (.cons _ _ (.cons _ _ (.cons _ _ (.cons _ _ (.cons _ _ (.cons _ _ (.cons _ _ (.cons _ _ (.cons _ _ .nil)))))))))))); (case zwk4 => omega); (case zwk5 => (show _ < (12 : Int)); omega); (case zwk6 => omega); (case zwk7 => with_unfolding_all rfl); k_whole); intro _)
  k_with "CompSrcT" => refine Stop.mk ?_
  have : (Challenge.rw_rs0060_01 = Challenge.rw_rs0060_01 ∧ Mine.hd.heap_39 = Mine.hd.heap_39) := by k_fill; exact ⟨rfl, rfl⟩
  clear this
  have kMark := kstMark
  intro dp un gd cn cs a ccd cl outer A₀ base h₀ L m news s Q E B F X N T hk hP hdp hun hret
  refine wpAny_call ?_
  k_dflt (refine' code_defC ?k1 ?k2 ?k3 ?k4 ?k5 ?kA ?kF ?kK ?k6 ?k7 ?k8 ?k9 ?kB ?kD ?_ ?c2 ?c3 ?c4; (case kA => exact rfl); (case kF => exact rfl); (case kK => assumption); (case k1 => k_asm); (case k2 => k_asm); (case k3 => k_asm); (case k4 => k_asm); (case k5 => k_asm); (case k6 => k_is); (case k7 => k_is); (case k8 => ktr_room); (case k9 => exact BindsTo.of_eq rfl); (case kB => exact rfl); (case kD => decide +kernel); (case c2 => exact rfl); (case c3 => exact rfl); (case c4 => exact rfl); k_whole; intro g' L' h' tk' cells' FG' F' N' Y' B' X' T' l1; (try k_lt l1); k_cells Y'; (try simp only [List.cons_append, List.nil_append] at N'); (try dsimp only); (try k_fold))
  have lc1 : ∀ p ∈ news, p.1 < L' + 1 := fun p hp => Nat.lt_succ_of_lt (l1 p hp)
  have lc2 : ∀ p ∈ news, p.1 < L' + 1 + 1 := fun p hp => Nat.lt_succ_of_lt (lc1 p hp)
  have lc3 : ∀ p ∈ news, p.1 < L' + 1 + 1 + 1 := fun p hp => Nat.lt_succ_of_lt (lc2 p hp)
  k_with_none
  k_with "call builtin:list.extend" => (k_here; (with_reducible show wpAny _ _ (call (Value.builtin _) [Value.ref _, Value.ref _]) _ _ _); k_dflt (refine' my_extend ?zwF ?zwN ?zwU ?zwb ?zwi ?zwj ?zwz ?_; (case zwF => k_asm); (case zwN => k_asm); (case zwb => k_mem); (case zwU => (intro t'; k_upd)); (case zwi => assumption); (case zwj => assumption); (case zwz => (rw [sizeLine_eq]; omega))); intro k' h' F' N' i')
  k_with "call builtin:iter" => (k_here; (with_reducible show wpAny _ _ (call (Value.builtin "iter") [Value.ref _]) _ _ _); k_dflt (refine' my_iter ?zwF ?zwN ?zwm ?_; (case zwF => k_asm); (case zwN => k_asm); (case zwm => k_mem)); intro I' h' F' N' l1; (try k_lt l1))
  k_with "eval DictComp Call Name cons" => (k_here; k_dflt (refine' DictComp_K ?zwkF ?zwkbig ?zwkclos ?zwkcf ?zwkpc ?zwkkind ?zwkn ?zwkxk ?_ ?zwks; (case zwkF => k_asm); (case zwkbig => exact modules_low (Top.nolimit (by assumption))); (case zwkclos => rfl); (case zwkcf => exact fun _ => rfl); (case zwkpc => exact fun _ => rfl); (case zwkkind => rfl); (case zwkn => decide); (case zwkxk => exact fun _ _ => rfl); (case zwks => intro _; rfl)))
  k_with "subscriptTail Name BinOp ref int" => (k_here; (with_reducible show wpAny _ _ (subscriptTail _ _ (Value.ref _) (Value.int _ _)) _ _ _); k_dflt (refine' str_sub (ss := nameTab) ?zwk1 ?zwk2 ?zwk3 ?zwk4 ?zwk5 ?zwk6 ?_ ?zwk7; (case zwk1 => k_asm); (case zwk2 => k_mem); (case zwk3 => exact .cons _ _ (.cons _ _ (.cons _ _ (.cons _ _ (.cons _ _ (.cons _ _ (.cons _ _ (.cons _ _ (.cons _ _ (.cons _ _ (.cons _ _ (.cons _ _ .nil)))))))))))); (case zwk4 => omega); (case zwk5 => (show _ < (12 : Int)); omega); (case zwk6 => omega); (case zwk7 => with_unfolding_all rfl); k_whole); intro _)
  k_with "CompSrcT" => refine Stop.mk ?_
  k_steps
  rename News _ _ _ _ => nN
  have hvl := IntsAre.length hI
  refine srcDK_fix (fun i c => c = namedF sh (xs.take i)) rfl (by assumption) nN (by k_mem) (by rw [List.size_toArray]; omega) rfl ?_ ?_
  · intro i9 c9 hi9 hJ9 v9 I9 oI9 C9 oC9 K9 oK9 D9 o9 h9 tk9 E9 g9 hv9 hK9 F9 N9 off9 ne9
    obtain ⟨x9, t9, e9, rfl⟩ := ints_item hI hv9
    have hx9 := hx x9 (List.mem_of_getElem? e9)
    k_steps
    refine Stop.go ?_
    k_dflt (refine LCt.CompSrcT.range (by rfl) (by k_asm) (by k_asm) (by assumption) (by first | decide | rfl) (by first | rfl | decide) (by first | size_fits | exact Nat.le_of_ble_eq_true rfl) ?_)
    intro g8
    refine compT_fix (fun i ys => StrsAre ys (partsF sh x9 i)) .nil ?_ ?_
    · rintro i8 ys8 hi8 hJ8 v8 I8 oI8 C8 oC8 D8 m8 h8 tk8 E8 ⟨t8, rfl⟩ hC8 hx8 F8 N8 off8 ne8
      have hi4 : i8 < 4 := hi8
      simp only [Int.zero_add] at hx8
      have eN : (sh + (i8 : Int)).toNat = sh.toNat + i8 := by omega
      k_steps
      · rename News _ _ _ _ => nE
        rename Int.fmod _ 2 = 1 => hb9
        refine comp_end (by assumption) nE (by walk_at "sub") off8 trivial ?_
        show StrsAre _ _
        rw [parts_succ, if_pos (show bitF x9 i8 = true from decide_eq_true hb9), ← eN]
        exact strsAre_append hJ8 (.cons _ _ .nil)
      · rename News _ _ _ _ => nE
        rename ¬ Int.fmod _ 2 = 1 => hb9
        refine comp_end (by assumption) nE (by walk_at "sub") off8 trivial ?_
        show StrsAre _ _
        rw [parts_succ, if_neg (show ¬ bitF x9 i8 = true from fun h => hb9 (of_decide_eq_true h)), List.append_nil]
        exact hJ8
    · intro ys8 hJ8
      k_steps
      rename News _ _ _ _ => nE
      refine join_list (ys := partsF sh x9 4) ⟨_, (nE _ List.mem_cons_self).1, rfl, _, rfl⟩ hJ8 (parts_size sh x9) ?_
      intro t7 k7
      k_steps
      rename News _ _ _ _ => nE
      refine endK_fix (by assumption) nE (by walk_at "sub") off9 (by k_mem) ?_
      show kdpPut c9 _ x9 = namedF sh (xs.take (i9 + 1))
      rw [take_snoc e9]
      unfold namedF
      rw [List.foldl_append, hJ9]
      rfl
  · intro D9 o9 h9 tk9 c9 hJ9 hd9 F9 N9 lt9 lo9
    k_steps
    rename News h₀ _ _ _ => nE
    rw [List.size_toArray, hvl, List.take_length] at hJ9
    exact end1 hret (by assumption) nE (by k_mem) (by walk_at "sub") (fun q hq => lt9 q (by k_mem)) ⟨_, _, rfl, rfl, lo9, hJ9 ▸ hd9⟩
end

end
section
open PySem PySem.W PySem.Spec PySem.Calls PyProof.Rows PyProof.Rows.LCg PyProof.Rows.LCt
section
variable {prog : Program} {w : World} {A : Around} {E : Value → Shared → Prop} {s : Shared} {h₀ : Heap} {L : Addr} {m : Str → Option Value} {env : Env}
/-- a source of a list comprehension with a test: a dict of the ledger -/
noncomputable def SrcTD (prog : Program) (w : World) (A : Around) (h₀ : Heap) (L : Addr) (m : Str → Option Value) (env : Env) (ct elt : Expr) (x : Str) (scope : Scope) (cl : List (Str × Addr)) (Fin : Shared → List Value → List (Addr × Obj) → Prop) (xv : Value) (s₁ : Shared) : Prop :=
  ∃ (d : Addr) (o : Obj) (kvs : List (Str × Value)) (news : List (Addr × Obj)), xv = .ref d ∧ A.handled = none ∧ Fr h₀ L s₁.heap m ∧ News h₀ L s₁.heap news ∧ (d, o) ∈ news ∧ o.IsDictOf (PySem.strKind prog w) kvs ∧ (d == sysModules) = false ∧ kvs.length ≤ sizeLine ∧
    ∀ s₂ : Shared, (∃ h, s₂ = { s₁ with heap := h }) → CompRestT prog w A h₀ L m env ct elt x scope cl s₂ (fun nw => (d, o) ∈ nw) (fun i v => ∃ y t x, kvs[i]? = some (y, x) ∧ v = .str y t) (Fin s₂) kvs.length 0 [] news
theorem blockTD {ct elt iter : Expr} {x : Str} {px : Pos} {scope : Scope} {cl : List (Str × Addr)} {pos : Pos} {s₁ : Shared} {d : Addr} {o : Obj} {kvs : List (Str × Value)} {news : List (Addr × Obj)} {Fin : Shared → List Value → List (Addr × Obj) → Prop} {RR : Value → Addr → Result → Shared → Prop}
    (hcell : ∀ y ∈ scope.names, y.2 ≠ .cell) (hkind : scope.kind = .function) (hx : scope.names.lookup x = some .local)
    (hh : A.handled = none) (F : Fr h₀ L s₁.heap m) (N : News h₀ L s₁.heap news) (hm : (d, o) ∈ news) (hd : o.IsDictOf (PySem.strKind prog w) kvs) (lo : (d == sysModules) = false) (hsz : kvs.length ≤ sizeLine)
    (R : ∀ s₂ : Shared, (∃ h, s₂ = { s₁ with heap := h }) → CompRestT prog w A h₀ L m env ct elt x scope cl s₂ (fun nw => (d, o) ∈ nw) (fun i v => ∃ y t x, kvs[i]? = some (y, x) ∧ v = .str y t) (Fin s₂) kvs.length 0 [] news)
    (hRR : ∀ g D C h tk m' ys news', Fr h₀ L h m → News h₀ L h ((D, lst ys) :: news') → Off1 D news' → h.Ns C m' → h₀.get? C = none → h₀.get? D = none → C ≠ L → D ≠ L → C ≠ D → (∀ p ∈ news', p.1 ≠ C) → Fin { s₁ with heap := g } ys news' → RR (.ref D) C (.ok .next) { s₁ with heap := h, toks := tk }) :
    wpAny (model prog w) A (pyIter (.ref d)) (fun it s₂ => wpAny (model prog w) A (newList []) (fun acc s₃ => wpAny (model prog w) A (newFunctionEnv scope env.globals cl [] env.qual none .none (some env)) (fun cenv s₄ =>
      codeAny (model prog w) A (.compStart (.ListComp elt [⟨.Name x px, iter, [ct], 0⟩] scope pos) 0 it acc { cenv with scope := relabel scope env }) (RR acc cenv.locals) s₄) E s₃) E s₂) E s₁ := by
  have hod : s₁.heap.get? d = some o := (N _ hm).1
  obtain ⟨ep, hat⟩ := (kda_dict N hm hd).dictAt
  refine wpAny_pyIter_dict lo hat ?_
  have hlt : d < s₁.heap.objs.size := hat.lt_size
  have up : ∀ (it : Obj) b o, s₁.heap.get? b = some o → (s₁.heap.push it).get? b = some o := fun it b o e => Heap.get?_push_of_some _ e
  refine block_T (S := fun nw => (d, o) ∈ nw) ((Walks.dictKeys (knd := PySem.strKind prog w) hh s₁.heap.objs.size d (Nat.ne_of_lt hlt) kvs ep).weaken (P' := fun i v => ∃ y t x, kvs[i]? = some (y, x) ∧ v = .str y t) fun i v hp => ?_) hsz (fun i h st => ?_) (fun i h h' o' nw st e e' kp N' hS => ?_) hcell hkind hx
    ⟨⟨_, Heap.get?_push_size _ rfl, rfl, rfl⟩, hat.push _⟩ (fun b hb => ?_) (F.keeps (up _)) (N.grown (up _)) (Nat.ne_of_lt F.ns.lt) (next_is_new F) (fun p hp => Nat.ne_of_lt (Heap.lt_size (N p hp).1)) hm (R _ ⟨_, rfl⟩) ?_
  · obtain ⟨y, xv, hx', hk⟩ := hp
    obtain ⟨t, rfl⟩ := Value.isStrOf_shape hk
    exact ⟨y, t, xv, hx', rfl⟩
  · obtain ⟨o, e, _⟩ := st.1
    exact ⟨o, e⟩
  · refine ⟨st.1.at fun o2 e2 => ?_, hat.at' fun o2 e2 => ?_⟩
    · rw [e] at e2
      rw [e', e2]
    · rw [hod] at e2
      rw [(N' _ hS).1, e2]
  · show b < (s₁.heap.push _).objs.size
    rw [Heap.size_push]
    simp only [List.mem_cons, List.not_mem_nil, or_false] at hb
    rcases hb with rfl | rfl
    · exact Nat.lt_succ_self _
    · exact Nat.lt_succ_of_lt hlt
  · intro D C h tk m' ys news' a1 a2 a3 a4 a5 a6 a7 a8 a9 a10 a11
    exact hRR _ D C h tk m' ys news' a1 a2 a3 a4 a5 a6 a7 a8 a9 a10 a11
theorem ListComp_TD {ct elt iter : Expr} {x : Str} {px : Pos} {scope : Scope} {cl : List (Str × Addr)} {pos : Pos} {Q : Value → Shared → Prop} (F₀ : Fr h₀ L s.heap m)
    (hclos : closureFor scope env = pure cl) (hcell : ∀ y ∈ scope.names, y.2 ≠ .cell) (hkind : scope.kind = .function)
    (hnames : ∀ y ∈ scope.names, y.2 = .local → scope.names.lookup y.1 = some .local) (hx : scope.names.lookup x = some .local)
    (h : wpAny (model prog w) A (eval iter env) (SrcTD prog w A h₀ L m env ct elt x scope cl (fun s₂ => FinE h₀ L m s₂ Q)) E s)
    (hs : ∀ x, foldedSetIterable iter env x = pure x := by intro _; rfl) :
    wpAny (model prog w) A (eval (.ListComp elt [⟨.Name x px, iter, [ct], 0⟩] scope pos) env) Q E s := by
  rw [eval_ListComp]
  refine wpAny_comprehension_free (use := none) rfl hs hclos hkind hnames (wpAny_mono h (fun xv s₁ h₁ => ?_) fun _ _ e => e)
  obtain ⟨d, o, kvs, news, rfl, hh, F, N, hm, hd, lo, hsz, R⟩ := h₁
  refine blockTD hcell hkind hx hh F N hm hd lo hsz R ?_
  intro g D C h tk m' ys news' F' N' o1 hn hC₀ hD₀ hCL hDL hCD offC fin
  refine ⟨m', hn, fun h'' hs'' => fin D h'' tk (F'.change hs'' hCL hC₀) (fun p hp => ?_) o1⟩
  refine ⟨hs''.extBut _ _ ?_ (N' p hp).1, (N' p hp).2⟩
  rcases List.mem_cons.mp hp with rfl | hp
  · exact Ne.symm hCD
  · exact offC p hp
theorem Assign_ListComp_TD {ct elt iter : Expr} {x y : Str} {px py : Pos} {scope : Scope} {cl : List (Str × Addr)} {pos spos : Pos} {Q : Flow → Shared → Prop} (F₀ : Fr h₀ L s.heap m) (hLe : env.locals = L)
    (hsw : swapsWith (.ListComp elt [⟨.Name x px, iter, [ct], 0⟩] scope pos) (some (.Name y py)) spos.line env = pure true)
    (hclos : closureFor scope env = pure cl) (hcell : ∀ z ∈ scope.names, z.2 ≠ .cell) (hkind : scope.kind = .function)
    (hnames : ∀ z ∈ scope.names, z.2 = .local → scope.names.lookup z.1 = some .local) (hx : scope.names.lookup x = some .local)
    (hy : env.kindOf y = some .local) (hp : (env.scope.kind == .class || (env.scope.kind == .module && env.locals != env.globals)) = false)
    (h : wpAny (model prog w) A (eval iter env) (SrcTD prog w A h₀ L m env ct elt x scope cl (fun s₂ => FinA h₀ L m s₂ y Q)) E s)
    (hs : ∀ x, foldedSetIterable iter env x = pure x := by intro _; rfl) :
    wpAny (model prog w) A (exec (.Assign [.Name y py] (.ListComp elt [⟨.Name x px, iter, [ct], 0⟩] scope pos) spos) env) Q E s := by
  subst hLe
  rw [exec_Assign_Name_used _ _ _ _ hsw]
  refine wpAny_bind (wpAny_standAt (wpAny_bind ?_))
  show wpAny _ A (do let _ ← comprehension (.ListComp elt [⟨.Name x px, iter, [ct], 0⟩] scope pos) scope env _ (newList []) false (eval iter env) (some (assign (.Name y py) env))) _ _ s
  refine wpAny_bind (wpAny_mono (wpAny_comprehension_free (use := some (assign (.Name y py) env)) (Q := fun _ s' => Q .next s') rfl hs hclos hkind hnames
    (wpAny_mono h (fun xv s₁ h₁ => ?_) fun _ _ e => e)) (fun _ s' hq => wpAny_pure (wpAny_pure hq)) fun _ _ e => e)
  obtain ⟨d, o, kvs, news, rfl, hh, F, N, hm, hd, lo, hsz, R⟩ := h₁
  refine blockTD hcell hkind hx hh F N hm hd lo hsz R ?_
  intro g D C h' tk m' ys news' F' N' o1 hn hC₀ hD₀ hCL hDL hCD offC fin
  show wpAny _ A (assign (.Name y py) env (.ref D)) _ _ _
  refine wpAny_assign_Name (wpAny_storeName_local hy F'.ns (fun h₂ hn₂ hs₂ => ?_) hp)
  have hL₀ : h₀.get? env.locals = none := Heap.get?_none_of_le F'.above
  have F₂ : Fr h₀ env.locals h₂ (fun z => if z = y then some (.ref D) else m z) := ⟨hn₂, fun b o e => hs₂.extBut b o (fun q => by rw [q, hL₀] at e; cases e) (F'.keep b o e), F'.above⟩
  refine ⟨m', hn.sameBut hs₂ hCL, fun h'' hs'' => fin D h'' _ (F₂.change hs'' hCL hC₀) (fun p hp => ?_) o1⟩
  have z : h₂.get? p.1 = some p.2 := hs₂.extBut _ _ (N' p hp).2.1 (N' p hp).1
  refine ⟨hs''.extBut _ _ ?_ z, (N' p hp).2⟩
  rcases List.mem_cons.mp hp with rfl | hp
  · exact Ne.symm hCD
  · exact offC p hp
theorem SrcTD.dict {ct elt : Expr} {x : Str} {scope : Scope} {cl : List (Str × Addr)} {Fin : Shared → List Value → List (Addr × Obj) → Prop} {d : Addr} {o : Obj} {kvs : List (Str × Value)} {news : List (Addr × Obj)} {s₁ : Shared}
    (hh : A.handled = none) (F : Fr h₀ L s₁.heap m) (N : News h₀ L s₁.heap news) (hm : (d, o) ∈ news) (hd : o.IsDictOf (PySem.strKind prog w) kvs) (lo : (d == sysModules) = false) (hsz : kvs.length ≤ sizeLine)
    (h : ∀ g, CompRestT prog w A h₀ L m env ct elt x scope cl { s₁ with heap := g } (fun nw => (d, o) ∈ nw) (fun i v => ∃ y t x, kvs[i]? = some (y, x) ∧ v = .str y t) (Fin { s₁ with heap := g }) kvs.length 0 [] news) :
    SrcTD prog w A h₀ L m env ct elt x scope cl Fin (.ref d) s₁ := ⟨d, o, kvs, news, rfl, hh, F, N, hm, hd, lo, hsz, fun _ ⟨g, e⟩ => e ▸ h g⟩
theorem strs_isStr : ∀ {vs : List Value} {ss : List Str}, StrsAre vs ss → ∀ {k : Str} {i : Nat} {v : Value}, vs[i]? = some v → isStrOf k v = decide (ss[i]? = some k)
  | _, _, .nil, k, i, v, h => by simp at h
  | _, _, .cons y t r, k, 0, v, h => by
    simp at h
    subst h
    by_cases e : y = k
    · subst e; simp [isStrOf]
    · simp [isStrOf, e]
  | _, _, .cons y t r, k, i + 1, v, h => by
    have := strs_isStr r (k := k) (i := i) (v := v) (by simpa using h)
    simpa using this
theorem nodup_at {α : Type} : ∀ {l : List α}, l.Nodup → ∀ {i j : Nat} {a : α}, l[i]? = some a → l[j]? = some a → i = j := by
  intro l hn i j a hi hj
  have h1 := List.getElem?_eq_some_iff.mp hi
  have h2 := List.getElem?_eq_some_iff.mp hj
  obtain ⟨li, ei⟩ := h1
  obtain ⟨lj, ej⟩ := h2
  have hp := List.pairwise_iff_getElem.mp hn
  rcases Nat.lt_trichotomy i j with h | h | h
  · exact absurd (ei.trans ej.symm) (hp i j li lj h)
  · exact h
  · exact absurd (ej.trans ei.symm) (hp j i lj li h)
theorem str_index {D : Addr} {vs : List Value} {ss : List Str} {k : Str} {t : Tok} {n i : Nat} {news : List (Addr × Obj)} {Q : Value → Shared → Prop} (N : News h₀ L s.heap news) (hm : (D, listOf vs.toArray n) ∈ news) (hi : StrsAre vs ss) (hn : ss.Nodup) (hz : ss.length ≤ 100) (e : ss[i]? = some k)
    (h : Q (.int (i : Nat) s.toks) { s with toks := s.toks + 1 }) : wpAny (model prog w) A (call (.builtin "list.index") [.ref D, .str k t]) Q E s := by
  have hlen := StrsAre.length hi
  have hil : i < ss.length := (List.getElem?_eq_some_iff.mp e).1
  refine call_meets PySem.F.slot_list_index ⟨_, (N _ hm).1, rfl⟩ PySem.F.entry_list_index (PySem.F.args_list_index_2 _ _)
    (MeetsSeq.list_index D vs.toArray n (.str k t) (isStrOf k) (fun y hy => eq_isStrOf k t hi y (by simpa using hy)) i (by simp; omega) (by omega) ?_ ?_) ⟨(N _ hm).1, h⟩
  · rw [strs_isStr hi (i := i) (by simp)]
    exact decide_eq_true e
  · intro j hj hlt
    rw [strs_isStr hi (i := j) (by simp)]
    exact decide_eq_false fun e2 => absurd (nodup_at hn e2 e) (Nat.ne_of_lt hlt)
/-- the end of a turn of a for whose letter is a cell -/
noncomputable def RcPost (h₀ : Heap) (L I : Addr) (oI : Obj) (c : Addr) (J : (Str → Option Value) → List (Addr × Obj) → Prop) (s₁ : Shared) (Q : Flow → Shared → Prop) (f : Flow) (s₂ : Shared) : Prop :=
  match f with
  | .ret v => Q (.ret v) s₂
  | .brk => Q .next s₂
  | _ => ∃ h' tk m' nw oc v, s₂ = { s₁ with heap := h', toks := tk } ∧ Fr h₀ L h' m' ∧ News h₀ L h' ((I, oI) :: (c, oc) :: nw) ∧ oc.data = .cell v ∧ (∀ p ∈ nw, @Ne Nat p.1 I) ∧ (∀ p ∈ nw, @Ne Nat p.1 c) ∧ J m' nw
theorem for_rangeC {x : Str} {px : Pos} {body : List Stmt} {c r : Addr} {oc : Obj} {vc : Option Value} {a₀ b₀ : Int} {t₀ u₀ v₀ : Tok} {n : Nat} {news : List (Addr × Obj)} {Q : Flow → Shared → Prop} (J : Nat → (Str → Option Value) → List (Addr × Obj) → Prop)
    (hh : A.handled = none) (hr : IsRange s.heap r a₀ b₀ 1 t₀ u₀ v₀) (hsmall : Builtin.Range.small a₀ b₀ 1 = true) (hn : Builtin.Range.rangeSize a₀ b₀ 1 = (n : Int))
    (hk : env.scope.kind = .function) (hx : env.kindOf x = some .cell) (hc : env.cells.lookup x = some c) (F : Fr h₀ env.locals s.heap m) (N : News h₀ env.locals s.heap ((c, oc) :: news)) (hoc : oc.data = .cell vc) (off : ∀ p ∈ news, @Ne Nat p.1 c) (hj : J 0 m news) (hE : PassesOwn (model prog w) A env E)
    (turn : ∀ i m₁ nw I oI oc t h tk, i < n → J i m₁ nw → oc.data = .cell (some (.int (a₀ + (i : Int)) t)) → Fr h₀ env.locals h m₁ → News h₀ env.locals h ((I, oI) :: (c, oc) :: nw) → (∀ p ∈ nw, @Ne Nat p.1 I) → (∀ p ∈ nw, @Ne Nat p.1 c) → @Ne Nat c I →
      wpAny (model prog w) A (execs body env) (RcPost h₀ env.locals I oI c (J (i + 1)) { s with heap := h, toks := tk } Q) E { s with heap := h, toks := tk })
    (done : ∀ m₁ nw oc v h tk, J n m₁ nw → oc.data = .cell v → Fr h₀ env.locals h m₁ → News h₀ env.locals h ((c, oc) :: nw) → (∀ p ∈ nw, @Ne Nat p.1 c) → Q .next { s with heap := h, toks := tk }) :
    wpAny (model prog w) A (pyIter (.ref r)) (fun it s₂ => codeAny (model prog w) A (.forLoop (.Name x px) it body [] env) (fun r s' => match r with | .ok f => Q f s' | .error e => cameBackBy (model prog w) A env E e s') s₂) E s := by
  refine wpAny_pyIter_range hr hsmall ?_
  have W := range_walks (prog := prog) (w := w) (A := A) (I := s.heap.objs.size) hh a₀ n
  generalize hI : s.heap.objs.size = I at W
  have cI : @Ne Nat c I := by
    have := Heap.lt_size (N _ (.head _)).1
    rw [hI] at this
    exact Nat.ne_of_lt this
  have LI : env.locals ≠ I := by
    have := F.ns.lt
    rw [hI] at this
    exact Nat.ne_of_lt this
  have I₀ : h₀.get? I = none := hI ▸ next_is_new F
  have cL : c ≠ env.locals := (N _ (.head _)).2.1
  have c₀ : h₀.get? c = none := (N _ (.head _)).2.2
  refine codeAny_forLoop (fun k s' => ∃ h tk m₁ nw oc v i, s' = { s with heap := h, toks := tk } ∧ IsRangeIter h I (a₀ + (i : Nat) * 1) ((n : Int) - (i : Nat)) 1 ∧ Fr h₀ env.locals h m₁ ∧ oc.data = .cell v ∧ News h₀ env.locals h ((c, oc) :: nw) ∧ (∀ p ∈ nw, @Ne Nat p.1 I) ∧ (∀ p ∈ nw, @Ne Nat p.1 c) ∧ J i m₁ nw ∧ i ≤ n ∧ k = n + 1 - i) ?_ (n + 1)
    ⟨_, s.toks, m, news, oc, vc, 0, rfl, by rw [← hI]; show IsRangeIter _ _ _ _ _; rw [hn]; simpa using Heap.get?_push_size _ rfl, F.push _, hoc, fun p hp => ⟨Heap.get?_push_of_some _ (N p hp).1, (N p hp).2⟩, fun p hp => ?_, off, hj, Nat.zero_le _, rfl⟩
  · rintro k s' ⟨h, tk, m₁, nw, oc, v, i, rfl, st, F₁, hoc, N₁, oI, ocf, hJ, hi, rfl⟩
    by_cases hlt : i < n
    · refine W.item i _ _ _ hlt st fun v1 h1 tk1 hP st1 kp => ?_
      obtain ⟨t1, rfl⟩ := hP
      have nI : ∀ b o, b ≠ I → h.get? b = some o → h1.get? b = some o := fun b o hb q => kp b o (by simpa using hb) q
      have F2 : Fr h₀ env.locals h1 m₁ := fr_but F₁ kp LI I₀
      have ck : h1.IsCell c v := ⟨oc, nI _ _ cI (N₁ _ (.head _)).1, hoc⟩
      refine wpAny_assign_Name (wpAny_storeName_cell hk hx hc ck fun h2 ck2 sb => ?_)
      obtain ⟨oc2, e2, d2⟩ := ck2
      have F3 : Fr h₀ env.locals h2 m₁ := F2.change sb cL c₀
      have st2 : IsRangeIter h2 I (a₀ + ((i + 1 : Nat) : Int) * 1) ((n : Int) - ((i + 1 : Nat) : Int)) 1 := sb.extBut _ _ (Ne.symm cI) st1
      obtain ⟨oIt, eIt⟩ : ∃ o, h2.get? I = some o := ⟨_, st2⟩
      have N3 : News h₀ env.locals h2 ((I, oIt) :: (c, oc2) :: nw) := fun p hp => by
        simp only [List.mem_cons] at hp
        rcases hp with rfl | rfl | hp
        · exact ⟨eIt, Ne.symm LI, I₀⟩
        · exact ⟨e2, cL, c₀⟩
        · have z := N₁ p (.tail _ hp)
          exact ⟨sb.extBut _ _ (ocf p hp) (nI _ _ (oI p hp) z.1), z.2⟩
      refine wpAny_passesOwn hE (wpAny_mono (turn i m₁ nw I oIt oc2 t1 h2 _ hlt hJ d2 F3 N3 oI ocf cI) (fun f s3 q => ?_) fun _ _ e => e)
      have fin : (∃ h' tk' m' nw' oc' v', s3 = { s with heap := h', toks := tk' } ∧ Fr h₀ env.locals h' m' ∧ News h₀ env.locals h' ((I, oIt) :: (c, oc') :: nw') ∧ oc'.data = .cell v' ∧ (∀ p ∈ nw', @Ne Nat p.1 I) ∧ (∀ p ∈ nw', @Ne Nat p.1 c) ∧ J (i + 1) m' nw') →
          ∃ m, m < n + 1 - i ∧ ∃ h tk m₁ nw oc v i, s3 = { s with heap := h, toks := tk } ∧ IsRangeIter h I (a₀ + (i : Nat) * 1) ((n : Int) - (i : Nat)) 1 ∧ Fr h₀ env.locals h m₁ ∧ oc.data = .cell v ∧ News h₀ env.locals h ((c, oc) :: nw) ∧ (∀ p ∈ nw, @Ne Nat p.1 I) ∧ (∀ p ∈ nw, @Ne Nat p.1 c) ∧ J i m₁ nw ∧ i ≤ n ∧ m = n + 1 - i := by
        rintro ⟨h', tk', m', nw', oc', v', e, F', N', ho, o1, o2, hJ'⟩
        refine ⟨n + 1 - (i + 1), by omega, h', tk', m', nw', oc', v', i + 1, e, ?_, F', ho, fun p hp => N' p (.tail _ hp), o1, o2, hJ', hlt, rfl⟩
        have e3 : h2.get? I = some _ := st2
        rw [eIt] at e3
        have e4 := (N' _ (.head _)).1
        show h'.get? I = some _
        rw [e4, e3]
      cases f with
      | ret v => exact q
      | brk => exact q
      | next => exact fin q
      | cont => exact fin q
    · obtain rfl : i = n := Nat.le_antisymm hi (Nat.not_lt.mp hlt)
      refine W.done _ _ _ st fun h1 tk1 kp => ?_
      have nI : ∀ b o, b ≠ I → h.get? b = some o → h1.get? b = some o := fun b o hb q => kp b o (by simpa using hb) q
      refine wpAny_execs_nil ?_
      refine done m₁ nw oc v h1 _ hJ hoc (fr_but F₁ kp LI I₀) (fun p hp => ?_) ocf
      have z := N₁ p hp
      refine ⟨nI _ _ ?_ z.1, z.2⟩
      rcases List.mem_cons.mp hp with rfl | hp
      · exact cI
      · exact oI p hp
  · have := Heap.lt_size (N p (.tail _ hp)).1
    rw [hI] at this
    exact Nat.ne_of_lt this
end

end
section
open PySem PySem.W PySem.Spec PySem.Calls PyProof.Rows PyProof.Rows.LCg PyProof.Rows.LCt
open PySem.SeqAt PySem.AutoSeq1 PySem.MeetsSeq PySem.MeetsSeq2 PySem.MeetsSeq3
section
variable {prog : Program} {w : World}
/-- two lists whose items are equal, one by one, are not unequal -/
theorem ne_loop_eq (l b : Addr) (items items2 : Array Value) (n n2 : Nat) (hsz : items.size = items2.size) (k : Nat) :
    ∀ (i : Nat) (A : Around) (R : Result → Shared → Prop) (s : Shared), items.size - i = k → s.heap.get? l = some { cls := .type "list", dict := none, data := .seq items n, slots := #[] } → s.heap.get? b = some { cls := .type "list", dict := none, data := .seq items2 n2, slots := #[] } →
      (∀ j (h1 : j < items.size) (h2 : j < items2.size) (E : Value → Shared → Prop) (Q : Bool → Shared → Prop), Q true s → wpAny (model prog w) A.in1 (eqBool items[j] items2[j]) Q E s) → R (.ok (.ret (.bool false))) s →
      wpAny (model prog w) A.in1 (Builtin.«list.__eq__.loop» ⟨[.ref l, .ref b, rawInt i, rawInt 3], []⟩) (fun fin s' => match fin with | .done f => R (.ok f) s' | .again c' => c'.quiet = true ∧ codeAny (model prog w) A c' R s') (fun e s' => R (.error e) s') s := by
  induction k with
  | zero =>
    intro i A R s hk hl hb he h
    obtain ⟨hp, g, d, tk, os⟩ := s
    wp_walk using wpAny_loadPart' hl, wpAny_loadPart' hb
    have hi1 : items[((i : Nat) : Int).toNat]? = none := by simp; omega
    have hi2 : items2[((i : Nat) : Int).toNat]? = none := by simp; omega
    rw [hi1, hi2]
    wp_walk using wpAny_loadPart' hl, wpAny_loadPart' hb
    show R (.ok (.ret (.bool (items.size != items2.size)))) _
    rw [hsz]
    simpa using h
  | succ k ih =>
    intro i A R s hk hl hb he h
    obtain ⟨hp, g, d, tk, os⟩ := s
    wp_walk using wpAny_loadPart' hl, wpAny_loadPart' hb
    have hlt : i < items.size := by omega
    have hlt2 : i < items2.size := by omega
    have hi1 : items[((i : Nat) : Int).toNat]? = some items[i] := by simp [hlt]
    have hi2 : items2[((i : Nat) : Int).toNat]? = some items2[i] := by simp [hlt2]
    have hc : ((i : Int) + 1) = ((i + 1 : Nat) : Int) := by omega
    rw [hi1, hi2]
    refine wpAny_bind (he i hlt hlt2 _ _ ?_)
    wp_walk
    rw [hc]
    exact ⟨plainId_quiet plain_eq_loop _, codeAny_builtin entry_eq_loop (by
      rw [Around.under_plainId plain_eq_loop _]
      exact ih (i + 1) A R _ (by omega) hl hb he h)⟩
theorem ne_lists_eq {A : Around} {E : Value → Shared → Prop} {s : Shared} {l b : Addr} {items items2 : Array Value} {n n2 : Nat} {Q : Value → Shared → Prop}
    (hl : s.heap.get? l = some (listOf items n)) (hb : s.heap.get? b = some (listOf items2 n2)) (hsz : items.size = items2.size) (hu : A.units < cLine)
    (he : ∀ j (h1 : j < items.size) (h2 : j < items2.size) (E : Value → Shared → Prop) (Q : Bool → Shared → Prop), Q true s → wpAny (model prog w) A.in1 (eqBool items[j] items2[j]) Q E s) (h : Q (.bool false) s) :
    wpAny (model prog w) A (compareOp .NotEq (.ref l) (.ref b)) Q E s := by
  refine wpAny_richCompare_same_room (op := .NotEq) ⟨_, hl, rfl⟩ ⟨_, hb, rfl⟩ F.slot_list_ne (wpAny_call (codeAny_call_builtin F.slot_list_ne.plain F.entry_list_ne (F.slot_list_ne.check _ _ _ _ _ _ _ _ ⟨_, hl, rfl⟩ (F.args_list_ne_2 _ _) ?_))) hu
  obtain ⟨hp, g, d, tk, os⟩ := s
  have f3 := AutoSeq1.sub_list_list
  have hne : ¬ (items.size != items2.size) = true := by simp [hsz]
  wp_walk using wpAny_loadPart' hl, wpAny_loadPart' hb
  exact ⟨plainId_quiet plain_eq_loop _, codeAny_builtin entry_eq_loop (by
    rw [Around.under_plainId plain_eq_loop _]
    refine ne_loop_eq (R := wants (fun v s' => v ≠ .notImplemented ∧ Q v s') E) l b items items2 n n2 hsz _ 0 _ _ rfl hl hb he ?_
    exact ⟨(fun x => nomatch x), h⟩)⟩
/-- two contents that say the same -/
noncomputable def Agree (c c' : List (Str × Int)) : Prop := c.length = c'.length ∧ ∀ p ∈ c, kdpHas c' p.1 = true ∧ kdpLook c' p.1 0 = p.2
theorem agree_rows {c' : List (Str × Int)} : ∀ {c : List (Str × Int)}, (∀ p ∈ c, kdpHas c' p.1 = true ∧ kdpLook c' p.1 0 = p.2) → KeqRows (kdpD c') (kdpD c) true
  | [], _ => .nil
  | p :: c, h => by
    obtain ⟨h1, h2⟩ := h p (.head _)
    have r := agree_rows (c := c) fun q hq => h q (.tail _ hq)
    have e : (PyData.eqv (.int p.2) (.int (kdpLook c' p.1 0)) && true) = true := by rw [h2]; simp [PyData.eqv]
    have z := KeqRows.hit (v := .int p.2) (kdpD_item h1) r
    rw [e] at z
    exact z
theorem eq_dicts {A : Around} {E : Value → Shared → Prop} {s : Shared} {h₀ : Heap} {L a b : Addr} {m : Str → Option Value} {news : List (Addr × Obj)} {oa ob : Obj} {ka kb : List (Str × Value)} {c c' : List (Str × Int)} {Q : Value → Shared → Prop}
    (N : News h₀ L s.heap news) (ha : (a, oa) ∈ news) (hb : (b, ob) ∈ news) (la : (a == sysModules) = false) (lb : (b == sysModules) = false) (da : oa.IsDictOf (PySem.strKind prog w) ka) (fa : PyProof.V.FlatPairs PyData.str ka (kdpD c))
    (db : ob.IsDictOf (PySem.strKind prog w) kb) (fb : PyProof.V.FlatPairs PyData.str kb (kdpD c')) (ag : Agree c c') (hu : A.units < cLine) (h : Q (.bool true) s) : wpAny (model prog w) A (compareOp .Eq (.ref a) (.ref b)) Q E s :=
  keq_tabs PyProof.V.same_str ⟨la, ka, kda_dict N ha da, fa⟩ ⟨lb, kb, kda_dict N hb db, fb⟩ (by rw [kdpD_length, kdpD_length]; exact ag.1) hu (agree_rows ag.2) h
theorem eqBool_dicts {A : Around} {E : Value → Shared → Prop} {s : Shared} {h₀ : Heap} {L a b : Addr} {m : Str → Option Value} {news : List (Addr × Obj)} {oa ob : Obj} {ka kb : List (Str × Value)} {c c' : List (Str × Int)} {Q : Bool → Shared → Prop}
    (N : News h₀ L s.heap news) (ha : (a, oa) ∈ news) (hb : (b, ob) ∈ news) (ne : a ≠ b) (la : (a == sysModules) = false) (lb : (b == sysModules) = false) (da : oa.IsDictOf (PySem.strKind prog w) ka) (fa : PyProof.V.FlatPairs PyData.str ka (kdpD c))
    (db : ob.IsDictOf (PySem.strKind prog w) kb) (fb : PyProof.V.FlatPairs PyData.str kb (kdpD c')) (ag : Agree c c') (hu : A.units < cLine) (h : Q true s) : wpAny (model prog w) A (eqBool (.ref a) (.ref b)) Q E s := by
  unfold eqBool
  refine wpAny_holding ?_
  refine wpAny_ite_split (fun hab => absurd (by have := eq_of_beq hab; injection this) ne) (fun _ => ?_)
  exact wpAny_bind (eq_dicts (m := m) N ha hb la lb da fa db fb ag hu (wpAny_truthy_bool h))
end

end
section
open PySem PySem.W PySem.Spec PySem.Calls PyProof.Rows PyProof.Rows.LCg PyProof.Rows.LCt
theorem rows3 {rows : List (Addr × Obj)} (h : rows.length = 3) : ∃ p0 p1 p2, rows = [p2, p1, p0] := by
  cases rows with
  | nil => exact absurd h (by simp)
  | cons p2 r =>
    cases r with
    | nil => exact absurd h (by simp)
    | cons p1 r =>
      cases r with
      | nil => exact absurd h (by simp)
      | cons p0 r =>
        cases r with
        | nil => exact ⟨p0, p1, p2, rfl⟩
        | cons q r => exact absurd h (by simp)
/-- references to the rows, the eldest first; the rows are kept the newest first -/
noncomputable def refsOf (rows : List (Addr × Obj)) : List Value := rows.reverse.map fun p => Value.ref p.1
noncomputable def Apart : List (Addr × Obj) → List (Addr × Obj) → Prop
  | [], _ => True
  | p :: r, news => (∀ q ∈ r ++ news, @Ne Nat p.1 q.1) ∧ Apart r news
noncomputable def Goods (Good : Nat → Addr → Obj → Prop) : List (Addr × Obj) → Prop
  | [] => True
  | p :: r => Good r.length p.1 p.2 ∧ Goods Good r
section
variable {prog : Program} {w : World} {A : Around} {E : Value → Shared → Prop} {s : Shared} {h₀ : Heap} {L : Addr} {m : Str → Option Value} {env : Env} {elt ct : Expr} {x : Str} {scope : Scope} {cl : List (Str × Addr)} {S : List (Addr × Obj) → Prop} {P : Nat → Value → Prop} {Fin : List Value → List (Addr × Obj) → Prop} {n : Nat} {news : List (Addr × Obj)}
theorem refs_cons (p : Addr × Obj) (r : List (Addr × Obj)) : refsOf (p :: r) = refsOf r ++ [.ref p.1] := by unfold refsOf; rw [List.reverse_cons, List.map_append]; rfl
/-- the end of a turn whose element is a new object -/
noncomputable def RefEnd (h₀ : Heap) (L : Addr) (m : Str → Option Value) (s : Shared) (led : List (Addr × Obj)) (good : Addr → Obj → Prop) (y : Value) (s₂ : Shared) : Prop :=
  ∃ a o h' tk', y = .ref a ∧ s₂ = { s with heap := h', toks := tk' } ∧ Fr h₀ L h' m ∧ News h₀ L h' ((a, o) :: led) ∧ (∀ q ∈ led, q.1 < a) ∧ good a o
theorem ref_end {led all : List (Addr × Obj)} {good : Addr → Obj → Prop} {a : Addr} {o : Obj} {h' : Heap} {tk : Nat} (F : Fr h₀ L h' m) (N : News h₀ L h' all) (hm : (a, o) ∈ all) (sub : ∀ p ∈ led, p ∈ all) (lt : ∀ q ∈ led, q.1 < a) (g : good a o) :
    RefEnd h₀ L m s led good (.ref a) { s with heap := h', toks := tk } :=
  ⟨a, o, h', tk, rfl, rfl, F, fun p hp => by
    rcases List.mem_cons.mp hp with rfl | hp
    · exact N _ hm
    · exact N _ (sub _ hp), lt, g⟩
/-- a comprehension whose element makes a new object -/
theorem comp_refs (Good : Nat → Addr → Obj → Prop) (hS : ∀ rows, S (rows ++ news))
    (step : ∀ i rows, i < n → rows.length = i → ∀ v I oI C oC D m₂ h tk (E' : Value → Shared → Prop), P i v → NsObj oC m₂ → m₂ x = some v → Fr h₀ L h m → News h₀ L h ((I, oI) :: (C, oC) :: (D, lst (refsOf rows)) :: (rows ++ news)) → Off3 I C D (rows ++ news) → ((@Ne Nat I C) ∧ (@Ne Nat I D) ∧ (@Ne Nat C D)) →
      wpAny (model prog w) A (eval elt (compEnvC scope cl C env)) (RefEnd h₀ L m s ((I, oI) :: (C, oC) :: (D, lst (refsOf rows)) :: (rows ++ news)) (Good i)) E' { s with heap := h, toks := tk })
    (fin : ∀ rows, rows.length = n → Apart rows news → Goods Good rows → Fin (refsOf rows) (rows ++ news)) : CompRest prog w A h₀ L m env elt x scope cl s S P Fin n 0 [] news := by
  refine comp_go (fun i ys nw => ∃ rows : List (Addr × Obj), rows.length = i ∧ ys = refsOf rows ∧ nw = rows ++ news ∧ Apart rows news ∧ Goods Good rows) ?_ ?_ n 0 [] news (Nat.add_zero n) ⟨[], rfl, rfl, rfl, trivial, trivial⟩
  · rintro ys nw ⟨rows, hl, rfl, rfl, ha, hg⟩
    exact fin rows hl ha hg
  · rintro i ys nw hi ⟨rows, hl, rfl, rfl, ha, hg⟩ v I oI C oC D m₂ h tk E' a1 a2 a3 a4 a5 a6 a7
    refine wpAny_mono (step i rows hi hl v I oI C oC D m₂ h tk E' a1 a2 a3 a4 a5 a6 a7) (fun y s₂ q => ?_) fun _ _ e => e
    obtain ⟨a, o, h', tk', rfl, rfl, F', N', lt, gd⟩ := q
    refine ⟨h', tk', (a, o) :: (rows ++ news), rfl, F', fun p hp => N' p ?_, ⟨⟨?_, ?_, ?_⟩, a6⟩, hS ((a, o) :: rows), (a, o) :: rows, by rw [List.length_cons, hl], (refs_cons (a, o) rows).symm, rfl, ⟨fun q hq => ?_, ha⟩, ?_, hg⟩
    · simp only [List.mem_cons] at hp ⊢
      rcases hp with h | h | h | h | h
      · exact .inr (.inl h)
      · exact .inr (.inr (.inl h))
      · exact .inr (.inr (.inr (.inl h)))
      · exact .inl h
      · exact .inr (.inr (.inr (.inr h)))
    · exact Nat.ne_of_gt (lt (I, oI) (.head _))
    · exact Nat.ne_of_gt (lt (C, oC) (.tail _ (.head _)))
    · exact Nat.ne_of_gt (lt (D, _) (.tail _ (.tail _ (.head _))))
    · exact Nat.ne_of_gt (lt q (.tail _ (.tail _ (.tail _ hq))))
    · rw [hl]; exact gd
theorem pick3 {h : Heap} {led : List (Addr × Obj)} (N : News h₀ L h led) (G : Nat → Addr → Obj → Prop) {i : Nat} (hi : i < 3) (h0 : ∃ a o, (a, o) ∈ led ∧ G 0 a o) (h1 : ∃ a o, (a, o) ∈ led ∧ G 1 a o) (h2 : ∃ a o, (a, o) ∈ led ∧ G 2 a o) : ∃ a o, (a, o) ∈ led ∧ G i a o := by
  rcases (show i = 0 ∨ i = 1 ∨ i = 2 by omega) with rfl | rfl | rfl
  · exact h0
  · exact h1
  · exact h2
theorem its_sub {D : Addr} {its : Array Value} {i : Int} {j : Nat} {u : Tok} {k : Nat} {v : Value} {value slice : PySem.Expr} {Q : Value → Shared → Prop}
    (N : News h₀ L s.heap news) (hm : (D, listOf its k) ∈ news) (e : i = (j : Int)) (hx : its[j]? = some v) (h0 : j < 3) (h : Q v s)
    (hs : subscripted slice false (.ref D) (.int i u) = operate [.ref D, .int i u] (getItem (.ref D) (.int i u)) := by with_unfolding_all rfl) :
    wpAny (model prog w) A (subscriptTail value slice (.ref D) (.int i u)) Q E s := by
  have hl : s.heap.IsList D its := ⟨_, (N _ hm).1, rfl, k, rfl⟩
  have h1 : 0 ≤ i := by omega
  have h2 : i < 2 ^ 63 := by omega
  have h3 : its[i.toNat]? = some v := by rw [e, Int.toNat_natCast]; exact hx
  exact tail_any hl.typeIs slot_list_getitem.lookup (wpAny_getItem_list hl h1 h2 h3 h) hs
end
theorem Spec0.use {w : World} {mean : ExcName → Option Value} {mg mb : Str → Option Value} {f : Addr} {size : Nat} {vs : List Value} {Pre : List (Addr × Obj) → Prop} {Post : List (Addr × Obj) → Value → Prop}
    (C : Spec0 w mean mg mb f size vs Pre Post)
    {dp un : Nat} {gd : Option (List Code)} {cn : Str} {cs : Scope} {a : Addr} {ccd : Value} {cl : List (Str × Addr)} {A₀ : Around} {h₀ : Heap} {L : Addr} {m : Str → Option Value} {news : List (Addr × Obj)} {s : Shared}
    {Q E : Value → Shared → Prop}
    (B : Below A₀ h₀ [] h₀) (F : Fr h₀ L s.heap m) (X : (hd.heap_39 w.params).In h₀) (N : News h₀ L s.heap news) (T : Top view LZ mean mg mb h₀) (hk : cs.kind = .function) (hP : Pre news) (hdp : dp + size < recursionLimit) (hun : un + 8 * size < cLine)
    (ret : ∀ r tl h' tk', Fr h₀ L h' m → News h₀ L h' (tl ++ news) → (∀ p ∈ tl, ∀ q ∈ news, q.1 < p.1) → Post tl r → Q r { s with heap := h', toks := tk' }) :
    wpAny (model PG w) (ktrTop dp un gd cn cs L a ccd cl []) (call (.ref f) vs) Q E s := C _ _ _ _ _ _ _ _ _ _ _ _ _ _ _ _ B F X N T hk hP hdp hun ret
theorem SpecN.use {w : World} {mean : ExcName → Option Value} {mg mb : Str → Option Value} {f : Addr} {size : Nat} {vs : List Value} {Pre : Heap → List (Addr × Obj) → Prop} {Post : List (Addr × Obj) → Value → Prop}
    (C : SpecN w mean mg mb f size vs Pre Post)
    {dp un : Nat} {gd : Option (List Code)} {cn : Str} {cs : Scope} {a : Addr} {ccd : Value} {cl : List (Str × Addr)} {outer : List Env} {A₀ : Around} {base h₀ : Heap} {L : Addr} {m : Str → Option Value} {news : List (Addr × Obj)} {s : Shared}
    {Q E : Value → Shared → Prop}
    (B : Below A₀ base outer h₀) (F : Fr h₀ L s.heap m) (X : (hd.heap_39 w.params).In h₀) (N : News h₀ L s.heap news) (T : Top view LZ mean mg mb h₀) (hk : cs.kind = .function) (hP : Pre h₀ news) (hdp : dp + size < recursionLimit) (hun : un + 8 * size < cLine)
    (ret : ∀ r tl h' tk', Fr h₀ L h' m → News h₀ L h' (tl ++ news) → (∀ p ∈ tl, ∀ q ∈ news, @Ne Nat q.1 p.1) → Post tl r → Q r { s with heap := h', toks := tk' }) :
    wpAny (model PG w) (ktrTop dp un gd cn cs L a ccd cl outer) (call (.ref f) vs) Q E s := C _ _ _ _ _ _ _ _ _ _ _ _ _ _ _ _ _ _ B F X N T hk hP hdp hun ret
theorem ints3 {vs : List Value} {ds : List Int} (h : IntsAre vs ds) (hl : ds.length = 3) : ∃ d0 d1 d2 t0 t1 t2, ds = [d0, d1, d2] ∧ vs = [.int d0 t0, .int d1 t1, .int d2 t2] := by
  cases h with
  | nil => simp at hl
  | cons d0 t0 h =>
    cases h with
    | nil => simp at hl
    | cons d1 t1 h =>
      cases h with
      | nil => simp at hl
      | cons d2 t2 h =>
        cases h with
        | nil => exact ⟨d0, d1, d2, t0, t1, t2, rfl, rfl⟩
        | cons d3 t3 h => simp at hl

end
section
open PySem PySem.W PySem.Spec PySem.Calls PyProof.Rows PyProof.Rows.LCg PyProof.Rows.LCt
/-- no object of the first list stands where one of the second does -/
noncomputable def Far (l cells : List (Addr × Obj)) : Prop := ∀ p ∈ l, ∀ q ∈ cells, @Ne Nat p.1 q.1
theorem Far.cons {a : Addr} {o : Obj} {l cells : List (Addr × Obj)} (h : ∀ q ∈ cells, @Ne Nat a q.1) (r : Far l cells) : Far ((a, o) :: l) cells := fun p hp => by
  rcases List.mem_cons.mp hp with rfl | hp
  · exact h
  · exact r p hp
theorem Far.gt {a : Addr} {led cells : List (Addr × Obj)} (h : ∀ q ∈ led, q.1 < a) (hc : ∀ q ∈ cells, q ∈ led) : ∀ q ∈ cells, @Ne Nat a q.1 := fun q hq => Nat.ne_of_gt (h q (hc q hq))
theorem Far.nil {cells : List (Addr × Obj)} : Far [] cells := fun _ h => nomatch h
section
variable {prog : Program} {w : World} {A : Around} {E : Value → Shared → Prop} {s : Shared} {h₀ h : Heap} {L : Addr} {m : Str → Option Value} {env : Env} {rest cells rows : List (Addr × Obj)} {D : Addr} {oD : Obj}
theorem apart_ne : ∀ {rows news : List (Addr × Obj)}, Apart rows news → ∀ p ∈ rows, ∀ q ∈ news, @Ne Nat p.1 q.1
  | [], _, _, p, hp, _, _ => nomatch hp
  | r :: rows, news, ⟨a, b⟩, p, hp, q, hq => by
    rcases List.mem_cons.mp hp with rfl | hp
    · exact a q (List.mem_append_right _ hq)
    · exact apart_ne b p hp q hq
/-- the ledger behind a comprehension of new objects: the cells stand at its end -/
theorem stage (N : News h₀ L h ((D, oD) :: (rows ++ (rest ++ cells)))) (ap : Apart rows (rest ++ cells)) (o : Off1 D (rows ++ (rest ++ cells))) (far : Far rest cells) :
    ∃ rest', News h₀ L h (rest' ++ cells) ∧ Far rest' cells ∧ (D, oD) ∈ rest' ∧ (∀ p ∈ rows, p ∈ rest') ∧ (∀ p ∈ rest, p ∈ rest') := by
  refine ⟨(D, oD) :: (rows ++ rest), fun p hp => N p ?_, fun p hp q hq => ?_, .head _, fun p hp => .tail _ (List.mem_append_left _ hp), fun p hp => .tail _ (List.mem_append_right _ hp)⟩
  · simp only [List.cons_append, List.append_assoc] at hp
    exact hp
  · rcases List.mem_cons.mp hp with rfl | hp
    · exact Ne.symm (off1_all o q (List.mem_append_right _ (List.mem_append_right _ hq)))
    · rcases List.mem_append.mp hp with hp | hp
      · exact apart_ne ap p hp q (List.mem_append_right _ hq)
      · exact far p hp q hq
theorem stage0 {p₀ : Addr × Obj} (N : News h₀ L h ((D, oD) :: (rows ++ (p₀ :: cells)))) (ap : Apart rows (p₀ :: cells)) (o : Off1 D (rows ++ (p₀ :: cells))) (far : Far [p₀] cells) :
    ∃ rest', News h₀ L h (rest' ++ cells) ∧ Far rest' cells ∧ (D, oD) ∈ rest' ∧ (∀ p ∈ rows, p ∈ rest') ∧ (∀ p ∈ [p₀], p ∈ rest') := stage (rest := [p₀]) N ap o far
/-- a name whose cell stands at the ledger's end is stored -/
theorem store_cell {y : Str} {v : Value} {c : Addr} {oc : Obj} {v₀ : Option Value} {k : Nat} {Q : Unit → Shared → Prop} (hk : env.scope.kind = .function) (hx : env.kindOf y = some .cell) (hc : env.cells.lookup y = some c)
    (F : Fr h₀ L s.heap m) (N : News h₀ L s.heap (rest ++ cells)) (e : cells[k]? = some (c, oc)) (hoc : oc.data = .cell v₀) (far : Far rest cells) (nd : (cells.map (·.1)).Nodup)
    (h : ∀ h' oc', oc'.data = .cell (some v) → Fr h₀ L h' m → News h₀ L h' (rest ++ cells.set k (c, oc')) → Far rest (cells.set k (c, oc')) → Q () { s with heap := h' }) :
    wpAny (model prog w) A (storeName env y v) Q E s := by
  have hm : (c, oc) ∈ cells := List.mem_of_getElem? e
  have zc := N (c, oc) (List.mem_append_right _ hm)
  have ck : s.heap.IsCell c v₀ := ⟨oc, zc.1, hoc⟩
  refine wpAny_storeName_cell hk hx hc ck fun h2 ck2 sb => ?_
  obtain ⟨oc2, e2, d2⟩ := ck2
  refine h h2 oc2 d2 (F.change sb zc.2.1 zc.2.2) (fun p hp => ?_) fun p hp q hq => ?_
  · rcases List.mem_append.mp hp with hp | hp
    · have z := N p (List.mem_append_left _ hp)
      exact ⟨sb.extBut _ _ (far p hp (c, oc) hm) z.1, z.2⟩
    · obtain ⟨j, hj⟩ := List.mem_iff_getElem?.mp hp
      rw [List.getElem?_set] at hj
      by_cases q : k = j
      · rw [if_pos q] at hj
        split at hj
        · cases hj
          exact ⟨e2, zc.2⟩
        · cases hj
      · rw [if_neg q] at hj
        have z := N p (List.mem_append_right _ (List.mem_of_getElem? hj))
        refine ⟨sb.extBut _ _ (fun e' => q ?_) z.1, z.2⟩
        have e1 : (cells.map (·.1))[j]? = some c := by rw [List.getElem?_map, hj]; exact congrArg some e'
        have e3 : (cells.map (·.1))[k]? = some c := by rw [List.getElem?_map, e]; rfl
        exact nodup_at nd e3 e1
  · rcases List.mem_or_eq_of_mem_set hq with hq | rfl
    · exact far p hp q hq
    · exact far p hp (c, oc) hm
end
theorem cells_nd (L : Nat) : [L + 1 + 1 + 1 + 1 + 1, L + 1 + 1 + 1 + 1, L + 1 + 1 + 1, L + 1 + 1, L + 1].Nodup := by
  simp only [List.nodup_cons, List.mem_cons, List.not_mem_nil, or_false, not_or, not_false_eq_true, List.nodup_nil, and_true]
  omega

end
section
open PySem PySem.W PySem.Spec PySem.Calls PyProof.Rows PyProof.Rows.LCg PyProof.Rows.LCt
theorem off1_of {D : Addr} : ∀ {l : List (Addr × Obj)}, (∀ p ∈ l, @Ne Nat p.1 D) → Off1 D l
  | [], _ => trivial
  | p :: r, h => ⟨h p (.head _), off1_of fun q hq => h q (.tail _ hq)⟩
section
variable {prog : Program} {w : World} {A : Around} {E : Value → Shared → Prop} {s : Shared} {h₀ : Heap} {L : Addr} {m : Str → Option Value} {env : Env}
/-- a source of a list comprehension with a test whose letter is a cell: a range -/
noncomputable def SrcRKT (prog : Program) (w : World) (A : Around) (h₀ : Heap) (L : Addr) (m : Str → Option Value) (env : Env) (ct elt : Expr) (x : Str) (scope : Scope) (cl : List (Str × Addr)) (Fin : Shared → List Value → List (Addr × Obj) → Prop) (xv : Value) (s₁ : Shared) : Prop :=
  ∃ (r : Addr) (a b : Int) (t u v : Tok) (n : Nat) (news : List (Addr × Obj)) (J : Nat → List Value → Prop), xv = .ref r ∧ A.handled = none ∧ Fr h₀ L s₁.heap m ∧ News h₀ L s₁.heap news ∧ IsRange s₁.heap r a b 1 t u v ∧ Builtin.Range.small a b 1 = true ∧ Builtin.Range.rangeSize a b 1 = ((n : Nat) : Int) ∧ n ≤ sizeLine ∧ J 0 [] ∧
    (∀ i ys, i < n → J i ys → ∀ v I oI C oC K oK D h tk E' g, (∃ t, v = .int (a + (i : Int)) t) → oK.data = .cell (some v) → Fr h₀ L h m → News h₀ L h ((I, oI) :: (C, oC) :: (K, oK) :: (D, lst ys) :: news) → OffK I C K D news → Ne6 I C K D →
      wpAny (model prog w) A (isTrue ct (compEnvC scope ((x, K) :: cl) C env) (eval ct (compEnvC scope ((x, K) :: cl) C env))) (fun ok s' => if ok = true then
        wpAny (model prog w) A (eval elt (compEnvC scope ((x, K) :: cl) C env)) (fun y => EndK h₀ L m { s₁ with heap := g, toks := tk } I oI C oC K oK D (fun _ => True) (fun o' nw' => o' = lst ys ∧ nw' = news ∧ J (i + 1) (ys ++ [y]))) E' s'
        else EndK h₀ L m { s₁ with heap := g, toks := tk } I oI C oC K oK D (fun _ => True) (fun o' nw' => o' = lst ys ∧ nw' = news ∧ J (i + 1) ys) s') E' { s₁ with heap := h, toks := tk }) ∧
    (∀ g ys, J n ys → Fin { s₁ with heap := g } ys news)
theorem Assign_ListComp_KT {ct elt iter : Expr} {x y : Str} {px py : Pos} {scope : Scope} {cl : List (Str × Addr)} {pos spos : Pos} {Q : Flow → Shared → Prop} (F₀ : Fr h₀ L s.heap m) (hLe : env.locals = L)
    (hsw : swapsWith (.ListComp elt [⟨.Name x px, iter, [ct], 0⟩] scope pos) (some (.Name y py)) spos.line env = pure true)
    (hclos : closureFor scope env = pure cl) (hcf : ∀ k, cellsFrom k scope.names cl = (x, k) :: cl) (hpc : ∀ h, pushCells h scope.names = h.push { cls := .type "cell", data := .cell none }) (hkind : scope.kind = .function)
    (hnames : ∀ z ∈ scope.names, z.2 = .local → scope.names.lookup z.1 = some .local) (hxk : ∀ C K, Env.kindOf (compEnvC scope ((x, K) :: cl) C env) x = some .cell)
    (hy : env.kindOf y = some .local) (hp : (env.scope.kind == .class || (env.scope.kind == .module && env.locals != env.globals)) = false)
    (h : wpAny (model prog w) A (eval iter env) (SrcRKT prog w A h₀ L m env ct elt x scope cl (fun s₂ => FinA h₀ L m s₂ y Q)) E s)
    (hs : ∀ x, foldedSetIterable iter env x = pure x := by intro _; rfl) :
    wpAny (model prog w) A (exec (.Assign [.Name y py] (.ListComp elt [⟨.Name x px, iter, [ct], 0⟩] scope pos) spos) env) Q E s := by
  subst hLe
  rw [exec_Assign_Name_used _ _ _ _ hsw]
  refine wpAny_bind (wpAny_standAt (wpAny_bind ?_))
  show wpAny _ A (do let _ ← comprehension (.ListComp elt [⟨.Name x px, iter, [ct], 0⟩] scope pos) scope env _ (newList []) false (eval iter env) (some (assign (.Name y py) env))) _ _ s
  refine wpAny_bind (wpAny_mono (wpAny_comprehension_free (use := some (assign (.Name y py) env)) (Q := fun _ s' => Q .next s') rfl hs hclos hkind hnames
    (wpAny_mono h (fun xv s₁ h₁ => ?_) fun _ _ e => e)) (fun _ s' hq => wpAny_pure (wpAny_pure hq)) fun _ _ e => e)
  obtain ⟨r, a, b, t, u, v, n, news, J, rfl, hh, F, N, hr, hsm, hn, hsz, hJ0, step, fin⟩ := h₁
  refine wpAny_pyIter_range hr hsm ?_
  have up : ∀ (it : Obj) b o, s₁.heap.get? b = some o → (s₁.heap.push it).get? b = some o := fun it b o e => Heap.get?_push_of_some _ e
  refine block_K (o₀ := lst []) (S := fun _ => True) (px := px)
    (fun acc cenv R kk s' => wpAny (model prog w) A (isTrue ct cenv (eval ct cenv)) (fun ok s₃ => if ok = true then wpAny (model prog w) A (eval elt cenv) (fun y s₄ => wpAny (model prog w) A (call (.builtin "list.append") [acc, y]) (fun _ s₅ => kk s₅) (notedBy (model prog w) A cenv fun e s' => R (.error e) s') s₄) (notedBy (model prog w) A cenv fun e s' => R (.error e) s') s₃ else kk s₃) (notedBy (model prog w) A cenv fun e s' => R (.error e) s') s')
    (fun i o nw => ∃ ys, o = lst ys ∧ ys.length ≤ i ∧ nw = news ∧ J i ys) ?_ ?_ ?_ rfl newList_acc (range_walks hh a n) (fun i h st => ⟨_, st⟩) range_st hcf hpc hkind hxk (by show IsRangeIter _ _ _ _ _; rw [hn]; simpa using Heap.get?_push_size _ rfl) (fun b hb => ?_) (F.keeps (up _)) (N.grown (up _)) (Nat.ne_of_lt F.ns.lt) (next_is_new F) (fun p hp => Nat.ne_of_lt (Heap.lt_size (N p hp).1)) trivial ⟨[], rfl, Nat.zero_le _, rfl, hJ0⟩ ?_ ?_
  · intro it D cenv R Iv turn n s hI
    refine codeAny_compLoop_tests Iv (fun n s hI => wpAny_mono (turn n s hI) (fun r s₁ q => ?_) fun _ _ e => e) n hI
    cases r with
    | none => exact q
    | some v => exact wpAny_mono q (fun _ s₂ q2 => wpAny_tests_one q2) fun _ _ e => e
  · intro it acc cenv R s h0 h1
    exact codeAny_compStart_list h0 h1
  · intro acc cenv R kk kk' s hk hb
    refine wpAny_mono hb (fun ok s₄ h4 => ?_) fun _ _ e => e
    cases ok with
    | true =>
      simp only [if_true] at h4 ⊢
      exact wpAny_mono h4 (fun y s₅ h5 => wpAny_mono h5 (fun _ s₆ h6 => hk s₆ h6) fun _ _ e => e) fun _ _ e => e
    | false =>
      simp only [Bool.false_eq_true, if_false] at h4 ⊢
      exact hk _ h4
  · rw [List.mem_singleton.mp hb]
    show s₁.heap.objs.size < (s₁.heap.push _).objs.size
    rw [Heap.size_push]; exact Nat.lt_succ_self _
  · rintro i o nw hi ⟨ys, rfl, hyl, rfl, hJ⟩ v I oI C oC K oK D h tk R hP hoK F' N' off ne lt
    refine wpAny_mono (step i ys hi hJ v I oI C oC K oK D h tk _ h hP hoK F' N' off ne) (fun ok s₄ q => ?_) fun _ _ e => e
    cases ok with
    | true =>
      simp only [if_true] at q ⊢
      refine wpAny_mono q (fun y s₅ q5 => ?_) fun _ _ e => e
      obtain ⟨h', tk', o', nw', e, F₂, N₂, o2, hS, rfl, rfl, hJ'⟩ := q5
      exact endK_append (ys := ys) (r := fun zs nw'' => zs.length ≤ i + 1 ∧ nw'' = nw' ∧ J (i + 1) zs) ne (Nat.le_trans (Nat.le_trans hyl (Nat.le_of_lt hi)) hsz) ⟨h', tk', lst ys, nw', e, F₂, N₂, o2, hS, rfl, by rw [List.length_append]; exact Nat.succ_le_succ hyl, rfl, hJ'⟩
    | false =>
      simp only [Bool.false_eq_true, if_false] at q ⊢
      obtain ⟨h', tk', o', nw', e, F₂, N₂, o2, hS, rfl, rfl, hJ'⟩ := q
      exact ⟨h', tk', lst ys, nw', e, F₂, N₂, o2, hS, ys, rfl, Nat.le_succ_of_le hyl, rfl, hJ'⟩
  · rintro D C h' tk m' o nw _ F' N' off lt ns hC₀ hCL hCD offC ⟨ys, rfl, hyl, rfl, hJ⟩
    show wpAny _ A (assign (.Name y py) env (.ref D)) _ _ _
    refine wpAny_assign_Name (wpAny_storeName_local hy F'.ns (fun h₂ hn₂ hs₂ => ?_) hp)
    have hL₀ : h₀.get? env.locals = none := Heap.get?_none_of_le F'.above
    have F₂ : Fr h₀ env.locals h₂ (fun z => if z = y then some (.ref D) else m z) := ⟨hn₂, fun b o e => hs₂.extBut b o (fun q => by rw [q, hL₀] at e; cases e) (F'.keep b o e), F'.above⟩
    have o1 : Off1 D nw := off1_of off
    refine ⟨m', ns.sameBut hs₂ hCL, fun h'' hs'' => fin s₁.heap ys hJ D h'' _ (F₂.change hs'' hCL hC₀) (fun p hp => ?_) o1⟩
    have z : h₂.get? p.1 = some p.2 := hs₂.extBut _ _ (N' p hp).2.1 (N' p hp).1
    refine ⟨hs''.extBut _ _ ?_ z, (N' p hp).2⟩
    rcases List.mem_cons.mp hp with rfl | hp
    · exact Ne.symm hCD
    · exact offC p hp
theorem ne3 {w : World} {a b a0 a1 a2 b0 b1 b2 : Addr} {k k' : Nat} {oa0 oa1 oa2 ob0 ob1 ob2 : Obj} {c0 c1 c2 c0' c1' c2' : List (Str × Int)} {led : List (Addr × Obj)} {Q : Value → Shared → Prop}
    (N : News h₀ L s.heap led) (ha : (a, W.listOf #[.ref a0, .ref a1, .ref a2] k) ∈ led) (hb : (b, W.listOf #[.ref b0, .ref b1, .ref b2] k') ∈ led)
    (m0 : (a0, oa0) ∈ led) (m1 : (a1, oa1) ∈ led) (m2 : (a2, oa2) ∈ led) (n0 : (b0, ob0) ∈ led) (n1 : (b1, ob1) ∈ led) (n2 : (b2, ob2) ∈ led)
    (e0 : a0 ≠ b0) (e1 : a1 ≠ b1) (e2 : a2 ≠ b2)
    (la0 : (a0 == sysModules) = false) (la1 : (a1 == sysModules) = false) (la2 : (a2 == sysModules) = false) (lb0 : (b0 == sysModules) = false) (lb1 : (b1 == sysModules) = false) (lb2 : (b2 == sysModules) = false)
    (d0 : DSo prog w oa0 c0) (d1 : DSo prog w oa1 c1) (d2 : DSo prog w oa2 c2) (f0 : DSo prog w ob0 c0') (f1 : DSo prog w ob1 c1') (f2 : DSo prog w ob2 c2')
    (g0 : Agree c0 c0') (g1 : Agree c1 c1') (g2 : Agree c2 c2') (hu : A.units + 64 < cLine) (h : Q (.bool false) s) :
    wpAny (model prog w) A (compareOp .NotEq (.ref a) (.ref b)) Q E s := by
  have hu1 : A.in1.units < cLine := by rw [units_in1]; omega
  refine ne_lists_eq (N _ ha).1 (N _ hb).1 rfl (by omega) ?_ h
  intro j h1 h2 E Q hq
  have hj : j < 3 := h1
  obtain ⟨_, p0, q0⟩ := d0
  obtain ⟨_, p1, q1⟩ := d1
  obtain ⟨_, p2, q2⟩ := d2
  obtain ⟨_, p0', q0'⟩ := f0
  obtain ⟨_, p1', q1'⟩ := f1
  obtain ⟨_, p2', q2'⟩ := f2
  rcases (show j = 0 ∨ j = 1 ∨ j = 2 by omega) with rfl | rfl | rfl
  · exact eqBool_dicts (m := fun _ => none) N m0 n0 e0 la0 lb0 p0 q0 p0' q0' g0 hu1 hq
  · exact eqBool_dicts (m := fun _ => none) N m1 n1 e1 la1 lb1 p1 q1 p1' q1' g1 hu1 hq
  · exact eqBool_dicts (m := fun _ => none) N m2 n2 e2 la2 lb2 p2 q2 p2' q2' g2 hu1 hq
theorem my_sum {l : Addr} {vs : List Value} {ns : List Int} {k : Nat} {news : List (Addr × Obj)} {Q : Value → Shared → Prop} (F : Fr h₀ L s.heap m) (N : News h₀ L s.heap news) (hh : A.handled = none) (hm : (l, W.listOf vs.toArray k) ∈ news) (hi : IntsAre vs ns)
    (h : ∀ h' tk t', Fr h₀ L h' m → News h₀ L h' news → Q (.int ns.sum t') { s with heap := h', toks := tk }) : wpAny (model prog w) A (call (.builtin "sum") [.ref l]) Q E s :=
  LSm.sum_ints F N hh ⟨_, (N _ hm).1, rfl, k, rfl⟩ hi fun h' tk t' F' N' => h h' tk t' F' N'
theorem len_lst {l : Addr} {ys : List Value} {news : List (Addr × Obj)} {Q : Value → Shared → Prop} (N : News h₀ L s.heap news) (hm : (l, lst ys) ∈ news) (hz : ys.length ≤ 100) (h : ∀ t tk, Q (.int (ys.length : Nat) t) { s with toks := tk }) : wpAny (model prog w) A (call (.builtin "len") [.ref l]) Q E s := by
  have e : ys.toArray.size = ys.length := List.size_toArray ..
  refine PyProof.Rows.len_list (items := ys.toArray) ⟨_, (N _ hm).1, rfl, ys.length, rfl⟩ (by rw [e]; omega) ?_
  rw [e]
  exact h _ _
theorem srcRKT_fix {ct elt : Expr} {x : Str} {scope : Scope} {cl : List (Str × Addr)} {Fin : Shared → List Value → List (Addr × Obj) → Prop} {r : Addr} {a b : Int} {t u v : Tok} {news : List (Addr × Obj)} {s₁ : Shared} (n : Nat) (J : Nat → List Value → Prop)
    (hh : A.handled = none) (F : Fr h₀ L s₁.heap m) (N : News h₀ L s₁.heap news) (hr : IsRange s₁.heap r a b 1 t u v) (hsm : Builtin.Range.small a b 1 = true) (hn : Builtin.Range.rangeSize a b 1 = ((n : Nat) : Int)) (hsz : n ≤ sizeLine) (hJ0 : J 0 [])
    (step : ∀ i ys, i < n → J i ys → ∀ v I oI C oC K oK D h tk E' g, (∃ t, v = .int (a + (i : Int)) t) → oK.data = .cell (some v) → Fr h₀ L h m → News h₀ L h ((I, oI) :: (C, oC) :: (K, oK) :: (D, lst ys) :: news) → OffK I C K D news → Ne6 I C K D →
      wpAny (model prog w) A (isTrue ct (compEnvC scope ((x, K) :: cl) C env) (eval ct (compEnvC scope ((x, K) :: cl) C env))) (fun ok s' => if ok = true then
        wpAny (model prog w) A (eval elt (compEnvC scope ((x, K) :: cl) C env)) (fun y => EndK h₀ L m { s₁ with heap := g, toks := tk } I oI C oC K oK D (fun _ => True) (fun o' nw' => o' = lst ys ∧ nw' = news ∧ J (i + 1) (ys ++ [y]))) E' s'
        else EndK h₀ L m { s₁ with heap := g, toks := tk } I oI C oC K oK D (fun _ => True) (fun o' nw' => o' = lst ys ∧ nw' = news ∧ J (i + 1) ys) s') E' { s₁ with heap := h, toks := tk })
    (fin : ∀ g ys, J n ys → Fin { s₁ with heap := g } ys news) :
    SrcRKT prog w A h₀ L m env ct elt x scope cl Fin (.ref r) s₁ := ⟨r, a, b, t, u, v, n, news, J, rfl, hh, F, N, hr, hsm, hn, hsz, hJ0, step, fin⟩
theorem stage1 {h : Heap} {rest cells : List (Addr × Obj)} {a : Addr} {o : Obj} (N : News h₀ L h ((a, o) :: (rest ++ cells))) (lt : ∀ q ∈ rest ++ cells, q.1 < a) (far : Far rest cells) :
    ∃ rest', News h₀ L h (rest' ++ cells) ∧ Far rest' cells ∧ (a, o) ∈ rest' ∧ (∀ p ∈ rest, p ∈ rest') :=
  ⟨(a, o) :: rest, N, Far.cons (Far.gt lt fun q hq => List.mem_append_right _ hq) far, .head _, fun p hp => .tail _ hp⟩
end

end
section
open PySem PySem.W PySem.Spec PySem.Calls PyProof.Rows PyProof.Rows.LCg PyProof.Rows.LCt
section
variable {prog : Program} {w : World} {A : Around} {E : Value → Shared → Prop} {s : Shared} {h₀ h : Heap} {L : Addr} {m : Str → Option Value} {env : Env} {elt : Expr} {x : Str} {scope : Scope} {cl : List (Str × Addr)} {S : List (Addr × Obj) → Prop} {P : Nat → Value → Prop} {rest cells : List (Addr × Obj)}
/-- the law's ledger as two lists, the cells apart -/
theorem abs_led {goal : Prop} {p c5 c4 c3 c2 c1 : Addr × Obj} (N : News h₀ L h [p, c5, c4, c3, c2, c1]) (far : Far [p] [c5, c4, c3, c2, c1]) (nd : ([c5, c4, c3, c2, c1].map (·.1)).Nodup)
    (k : ∀ rest cells : List (Addr × Obj), News h₀ L h (rest ++ cells) → Far rest cells → (cells.map (·.1)).Nodup → p ∈ rest → cells[0]? = some c5 → cells[1]? = some c4 → cells[2]? = some c3 → cells[3]? = some c2 → cells[4]? = some c1 → goal) : goal :=
  k [p] _ N far nd (.head _) rfl rfl rfl rfl rfl
theorem store_cells {y : Str} {v : Value} {c : Addr} {oc : Obj} {v₀ : Option Value} {k : Nat} {Q : Unit → Shared → Prop} (hk : env.scope.kind = .function) (hx : env.kindOf y = some .cell) (hc : env.cells.lookup y = some c)
    (F : Fr h₀ L s.heap m) (N : News h₀ L s.heap (rest ++ cells)) (e : cells[k]? = some (c, oc)) (hoc : oc.data = .cell v₀) (far : Far rest cells) (nd : (cells.map (·.1)).Nodup)
    (h : ∀ h' oc' (cells' : List (Addr × Obj)), oc'.data = .cell (some v) → Fr h₀ L h' m → News h₀ L h' (rest ++ cells') → Far rest cells' → (cells'.map (·.1)).Nodup → cells'[k]? = some (c, oc') → (∀ j, j ≠ k → cells'[j]? = cells[j]?) → Q () { s with heap := h' }) :
    wpAny (model prog w) A (storeName env y v) Q E s := by
  refine store_cell hk hx hc F N e hoc far nd fun h' oc' d F' N' far' => h h' oc' _ d F' N' far' ?_ ?_ ?_
  · have e1 : (cells.set k (c, oc')).map (·.1) = cells.map (·.1) := by
      rw [List.map_set]
      apply List.ext_getElem?
      intro j
      rw [List.getElem?_set]
      by_cases q : k = j
      · subst q
        rw [if_pos rfl]
        have lt : k < cells.length := (List.getElem?_eq_some_iff.mp e).1
        rw [if_pos (by simpa using lt), List.getElem?_map, e]
        rfl
      · rw [if_neg q]
    rw [e1]
    exact nd
  · have lt : k < cells.length := (List.getElem?_eq_some_iff.mp e).1
    rw [List.getElem?_set, if_pos rfl, if_pos lt]
  · intro j hj
    rw [List.getElem?_set, if_neg (fun q => hj q.symm)]
/-- a comprehension of three new objects -/
theorem comp_refs3 {Q : Value → Shared → Prop} (Good : Nat → Addr → Obj → Prop) (hS : ∀ rows, S (rows ++ (rest ++ cells))) (far : Far rest cells)
    (step : ∀ i rows, i < 3 → rows.length = i → ∀ v I oI C oC D m₂ h tk (E' : Value → Shared → Prop), P i v → NsObj oC m₂ → m₂ x = some v → Fr h₀ L h m → News h₀ L h ((I, oI) :: (C, oC) :: (D, lst (refsOf rows)) :: (rows ++ (rest ++ cells))) → Off3 I C D (rows ++ (rest ++ cells)) → ((@Ne Nat I C) ∧ (@Ne Nat I D) ∧ (@Ne Nat C D)) →
      wpAny (model prog w) A (eval elt (compEnvC scope cl C env)) (RefEnd h₀ L m s ((I, oI) :: (C, oC) :: (D, lst (refsOf rows)) :: (rows ++ (rest ++ cells))) (Good i)) E' { s with heap := h, toks := tk })
    (fin : ∀ D a0 o0 a1 o1 a2 o2 rest' h tk, Fr h₀ L h m → News h₀ L h (rest' ++ cells) → Far rest' cells → (D, lst [Value.ref a0, Value.ref a1, Value.ref a2]) ∈ rest' → (a0, o0) ∈ rest' → (a1, o1) ∈ rest' → (a2, o2) ∈ rest' → (∀ p ∈ rest, p ∈ rest') → (∀ p ∈ rest, @Ne Nat a0 p.1 ∧ @Ne Nat a1 p.1 ∧ @Ne Nat a2 p.1) → Good 0 a0 o0 → Good 1 a1 o1 → Good 2 a2 o2 → Q (.ref D) { s with heap := h, toks := tk }) :
    CompRest prog w A h₀ L m env elt x scope cl s S P (FinE h₀ L m s Q) 3 0 [] (rest ++ cells) := by
  refine comp_refs Good hS step fun rows hl ap gd => ?_
  obtain ⟨⟨a0, o0⟩, ⟨a1, o1⟩, ⟨a2, o2⟩, rfl⟩ := rows3 hl
  obtain ⟨g2, g1, g0, _⟩ := gd
  intro D h tk F' N' o'
  obtain ⟨rest', N'', far', mD, mR, mO⟩ := stage N' ap o' far
  refine fin D a0 o0 a1 o1 a2 o2 rest' h tk F' N'' far' mD (mR _ (.tail _ (.tail _ (.head _)))) (mR _ (.tail _ (.head _))) (mR _ (.head _)) mO (fun p hp => ⟨?_, ?_, ?_⟩) g0 g1 g2
  · exact apart_ne ap (a0, o0) (.tail _ (.tail _ (.head _))) p (List.mem_append_left _ hp)
  · exact apart_ne ap (a1, o1) (.tail _ (.head _)) p (List.mem_append_left _ hp)
  · exact apart_ne ap (a2, o2) (.head _) p (List.mem_append_left _ hp)
theorem stage1C {goal : Prop} {a : Addr} {o : Obj} (N : News h₀ L h ((a, o) :: (rest ++ cells))) (lt : ∀ q ∈ rest ++ cells, q.1 < a) (far : Far rest cells)
    (k : ∀ rest', News h₀ L h (rest' ++ cells) → Far rest' cells → (a, o) ∈ rest' → (∀ p ∈ rest, p ∈ rest') → goal) : goal := by
  obtain ⟨r, a1, a2, a3, a4⟩ := stage1 N lt far
  exact k r a1 a2 a3 a4
theorem stageC {goal : Prop} {D : Addr} {oD : Obj} (N : News h₀ L h ((D, oD) :: (rest ++ cells))) (o : Off1 D (rest ++ cells)) (far : Far rest cells)
    (k : ∀ rest', News h₀ L h (rest' ++ cells) → Far rest' cells → (D, oD) ∈ rest' → (∀ p ∈ rest, p ∈ rest') → goal) : goal := by
  obtain ⟨r, a1, a2, a3, _, a4⟩ := stage (rows := []) N trivial o far
  exact k r a1 a2 a3 a4
theorem ds_use {goal : Prop} {o : Obj} {c : List (Str × Int)} (h : DS w o c) (k : ∀ kvs, o.IsDictOf (PySem.strKind PG w) kvs → PyProof.V.FlatPairs PyData.str kvs (kdpD c) → goal) : goal := h.elim fun kvs p => k kvs p.1 p.2
/-- one of the three trees -/
theorem pickT {goal : Prop} {G : List Int → Prop} {led : List (Addr × Obj)} {a0 a1 a2 : Addr} {v0 v1 v2 : List Value} {k0 k1 k2 : Nat} {x0 x1 x2 : List Int} {d0 d1 d2 : Int} {t0 t1 t2 : Tok} {i : Nat} (hi : i < 3)
    (m0 : (a0, W.listOf v0.toArray k0) ∈ led) (m1 : (a1, W.listOf v1.toArray k1) ∈ led) (m2 : (a2, W.listOf v2.toArray k2) ∈ led) (i0 : IntsAre v0 x0) (i1 : IntsAre v1 x1) (i2 : IntsAre v2 x2) (T : ∀ (j : Nat) y, [x0, x1, x2][j]? = some y → G y)
    (k : ∀ a v n y d t, #[Value.ref a0, Value.ref a1, Value.ref a2][i]? = some (Value.ref a) → #[Value.int d0 t0, Value.int d1 t1, Value.int d2 t2][i]? = some (Value.int d t) → [x0, x1, x2][i]? = some y → (a, W.listOf (List.toArray v) n) ∈ led → IntsAre v y → G y → goal) : goal := by
  rcases (show i = 0 ∨ i = 1 ∨ i = 2 by omega) with rfl | rfl | rfl
  · exact k a0 v0 k0 x0 d0 t0 rfl rfl rfl m0 i0 (T 0 _ rfl)
  · exact k a1 v1 k1 x1 d1 t1 rfl rfl rfl m1 i1 (T 1 _ rfl)
  · exact k a2 v2 k2 x2 d2 t2 rfl rfl rfl m2 i2 (T 2 _ rfl)
end
section
variable {w : World} {mean : ExcName → Option Value} {mg mb : Str → Option Value} {f : Addr} {size : Nat} {vs : List Value} {Pre : List (Addr × Obj) → Prop} {dp un : Nat} {gd : Option (List Code)} {cn : Str} {cs : Scope} {a : Addr} {ccd : Value} {cl : List (Str × Addr)} {outer : List Env} {A₀ : Around} {base h₀ : Heap} {L : Addr} {m : Str → Option Value} {news : List (Addr × Obj)} {s : Shared} {Q E : Value → Shared → Prop}
theorem Spec.useL {xs : List Int} (C : Spec w mean mg mb f size vs Pre (fun tl r => ∃ a vs k, r = .ref a ∧ tl = [(a, W.listOf (List.toArray vs) k)] ∧ IntsAre vs xs))
    (B : Below A₀ base outer h₀) (F : Fr h₀ L s.heap m) (X : (hd.heap_39 w.params).In h₀) (N : News h₀ L s.heap news) (T : Top view LZ mean mg mb h₀) (hk : cs.kind = .function) (hP : Pre news) (hdp : dp + size < recursionLimit) (hun : un + 8 * size < cLine)
    (ret : ∀ a us k h' tk', Fr h₀ L h' m → News h₀ L h' ((a, W.listOf (List.toArray us) k) :: news) → (∀ q ∈ news, q.1 < a) → IntsAre us xs → Q (.ref a) { s with heap := h', toks := tk' }) :
    wpAny (model PG w) (ktrTop dp un gd cn cs L a ccd cl outer) (call (.ref f) vs) Q E s := by
  refine C _ _ _ _ _ _ _ _ _ _ _ _ _ _ _ _ _ _ B F X N T hk hP hdp hun fun r tl h' tk' F' N' g p => ?_
  obtain ⟨a, us, k, rfl, rfl, i⟩ := p
  exact ret a us k h' tk' F' N' (fun q hq => g _ (.head _) q hq) i
theorem Spec.useD {c : List (Str × Int)} (C : Spec w mean mg mb f size vs Pre (fun tl r => ∃ a o, r = .ref a ∧ tl = [(a, o)] ∧ (a == sysModules) = false ∧ DS w o c))
    (B : Below A₀ base outer h₀) (F : Fr h₀ L s.heap m) (X : (hd.heap_39 w.params).In h₀) (N : News h₀ L s.heap news) (T : Top view LZ mean mg mb h₀) (hk : cs.kind = .function) (hP : Pre news) (hdp : dp + size < recursionLimit) (hun : un + 8 * size < cLine)
    (ret : ∀ a o h' tk', Fr h₀ L h' m → News h₀ L h' ((a, o) :: news) → (∀ q ∈ news, q.1 < a) → (a == sysModules) = false → DS w o c → Q (.ref a) { s with heap := h', toks := tk' }) :
    wpAny (model PG w) (ktrTop dp un gd cn cs L a ccd cl outer) (call (.ref f) vs) Q E s := by
  refine C _ _ _ _ _ _ _ _ _ _ _ _ _ _ _ _ _ _ B F X N T hk hP hdp hun fun r tl h' tk' F' N' g p => ?_
  obtain ⟨a, o, rfl, rfl, l, d⟩ := p
  exact ret a o h' tk' F' N' (fun q hq => g _ (.head _) q hq) l d
theorem Spec0.useD {c : List (Str × Int)} (C : Spec0 w mean mg mb f size vs Pre (fun tl r => ∃ a o, r = .ref a ∧ tl = [(a, o)] ∧ (a == sysModules) = false ∧ DS w o c))
    (B : Below A₀ h₀ [] h₀) (F : Fr h₀ L s.heap m) (X : (hd.heap_39 w.params).In h₀) (N : News h₀ L s.heap news) (T : Top view LZ mean mg mb h₀) (hk : cs.kind = .function) (hP : Pre news) (hdp : dp + size < recursionLimit) (hun : un + 8 * size < cLine)
    (ret : ∀ a o h' tk', Fr h₀ L h' m → News h₀ L h' ((a, o) :: news) → (∀ q ∈ news, q.1 < a) → (a == sysModules) = false → DS w o c → Q (.ref a) { s with heap := h', toks := tk' }) :
    wpAny (model PG w) (ktrTop dp un gd cn cs L a ccd cl []) (call (.ref f) vs) Q E s := by
  refine C _ _ _ _ _ _ _ _ _ _ _ _ _ _ _ _ B F X N T hk hP hdp hun fun r tl h' tk' F' N' g p => ?_
  obtain ⟨a, o, rfl, rfl, l, d⟩ := p
  exact ret a o h' tk' F' N' (fun q hq => g _ (.head _) q hq) l d
theorem Spec.useB {v : Value} (C : Spec w mean mg mb f size vs Pre (fun tl r => tl = [] ∧ r = v))
    (B : Below A₀ base outer h₀) (F : Fr h₀ L s.heap m) (X : (hd.heap_39 w.params).In h₀) (N : News h₀ L s.heap news) (T : Top view LZ mean mg mb h₀) (hk : cs.kind = .function) (hP : Pre news) (hdp : dp + size < recursionLimit) (hun : un + 8 * size < cLine)
    (ret : ∀ h' tk', Fr h₀ L h' m → News h₀ L h' news → Q v { s with heap := h', toks := tk' }) :
    wpAny (model PG w) (ktrTop dp un gd cn cs L a ccd cl outer) (call (.ref f) vs) Q E s := by
  refine C _ _ _ _ _ _ _ _ _ _ _ _ _ _ _ _ _ _ B F X N T hk hP hdp hun fun r tl h' tk' F' N' g p => ?_
  obtain ⟨rfl, rfl⟩ := p
  exact ret h' tk' F' N'
end

end
section
open PySem PySem.W PySem.Spec PySem.Calls PyProof.Rows PyProof.Rows.LCg PyProof.Rows.LCt
noncomputable def looseF (ch : List (Str × Int)) : List Str := (keysF ch).filter fun y => decide (kdpLook ch y 0 < 3)
noncomputable def codeF (lo : List Str) (c : List (Str × Int)) (i : Nat) : Nat := (if kdpHas c (lo.getD i (Str.ofString "")) = true then 65 else 97) + i
noncomputable def oneF (k : Nat) : Str := ⟨#[k]⟩
noncomputable def wordF (lo : List Str) (c : List (Str × Int)) : Str := Txt.join (Str.ofString "") (((List.range lo.length).map (codeF lo c)).map oneF)
noncomputable def loneF (xs ys : List Int) (m : Int) : Bool := !(xs.any (· == m)) || !(ys.any (· == m))
noncomputable def LevIs (n : Nat) (x y : Str) (v : Int) : Prop := (x = y → v = 0) ∧ (x ≠ y → ∃ k m, 0 < m ∧ k + m ≤ n ∧ x.cps.toList.take k = y.cps.toList.take k ∧ x.cps.toList.drop (k + m) = y.cps.toList.drop (k + m) ∧ ∀ row res, tabF' m (fun i j => subN (y.cps.toList.getD (k + i) 0) (x.cps.toList.getD (k + j) 0)) m = some (row, res) → v = res)
theorem keys_len {c : List (Str × Int)} : (keysF c).length = c.length := by unfold keysF; rw [List.length_map]
theorem keys_has {c : List (Str × Int)} {y : Str} (h : y ∈ keysF c) : kdpHas c y = true := by
  unfold keysF at h
  obtain ⟨p, hp, rfl⟩ := List.mem_map.mp h
  unfold kdpHas
  exact List.any_eq_true.mpr ⟨p, hp, by simp⟩
section
variable {prog : Program} {w : World} {A : Around} {E : Value → Shared → Prop} {s : Shared} {h₀ : Heap} {L d : Addr} {m : Str → Option Value} {news : List (Addr × Obj)} {o : Obj} {kvs : List (Str × Value)} {c : List (Str × Int)} {k : Str} {e : Int} {tk te : Tok}
theorem my_dsub {value slice : PySem.Expr} {Q : Value → Shared → Prop} (N : News h₀ L s.heap news) (hm : (d, o) ∈ news) (lo : (d == sysModules) = false) (hd : o.IsDictOf (PySem.strKind prog w) kvs) (hf : PyProof.V.FlatPairs PyData.str kvs (kdpD c)) (hk : kdpHas c k = true)
    (h : ∀ t, Q (.int (kdpLook c k 0) t) { s with toks := s.toks + 1 })
    (hs : subscripted slice false (.ref d) (.str k tk) = operate [.ref d, .str k tk] (getItem (.ref d) (.str k tk)) := by with_unfolding_all rfl) (hg : ∀ r, letTemporaryGo value (.ref d) r = pure () := by intro _; with_unfolding_all rfl) :
    wpAny (model prog w) A (subscriptTail value slice (.ref d) (.str k tk)) Q E s := kdp_item ⟨lo, kvs, kda_dict N hm hd, hf⟩ hk h hs hg
theorem my_din {Q : Value → Shared → Prop} (N : News h₀ L s.heap news) (hm : (d, o) ∈ news) (lo : (d == sysModules) = false) (hd : o.IsDictOf (PySem.strKind prog w) kvs) (hf : PyProof.V.FlatPairs PyData.str kvs (kdpD c))
    (h : Q (.bool (kdpHas c k)) { s with toks := s.toks + 1 }) : wpAny (model prog w) A (compareOp .In (.str k tk) (.ref d)) Q E s := kdp_in ⟨lo, kvs, kda_dict N hm hd, hf⟩ h
end
noncomputable def nthL {α : Type} : List α → Nat → Option α
  | [], _ => none
  | x :: _, 0 => some x
  | _ :: r, n + 1 => nthL r n
theorem nthL_eq {α : Type} : ∀ (l : List α) (n : Nat), nthL l n = l[n]?
  | [], _ => rfl
  | _ :: _, 0 => rfl
  | _ :: r, n + 1 => nthL_eq r n
theorem lit_sub {prog : Program} {w : World} {A : Around} {E : Value → Shared → Prop} {s : Shared} {h₀ : Heap} {L D : Addr} {news : List (Addr × Obj)} {its : Array Value} {i : Int} {u : Tok} {k : Nat} {v : Value} {value slice : PySem.Expr} {Q : Value → Shared → Prop}
    (N : News h₀ L s.heap news) (hm : (D, listOf its k) ∈ news) (hx : nthL its.toList i.toNat = some v) (h0 : 0 ≤ i) (hfit : i < 2 ^ 63) (h : Q v s)
    (hs : subscripted slice false (.ref D) (.int i u) = operate [.ref D, .int i u] (getItem (.ref D) (.int i u)) := by with_unfolding_all rfl) :
    wpAny (model prog w) A (subscriptTail value slice (.ref D) (.int i u)) Q E s := by
  have hl : s.heap.IsList D its := ⟨_, (N _ hm).1, rfl, k, rfl⟩
  exact tail_any hl.typeIs slot_list_getitem.lookup (wpAny_getItem_list hl h0 hfit (by rw [← Array.getElem?_toList, ← nthL_eq]; exact hx) h) hs
theorem nint_sub {prog : Program} {w : World} {A : Around} {E : Value → Shared → Prop} {s : Shared} {h₀ : Heap} {L D : Addr} {news : List (Addr × Obj)} {vs : Array Value} {ns : List Int} {i : Int} {u : Tok} {k : Nat} {x : Int} {value slice : PySem.Expr} {Q : Value → Shared → Prop}
    (N : News h₀ L s.heap news) (hm : (D, listOf vs k) ∈ news) (hi : IntsAre vs.toList ns) (hx : nthL ns i.toNat = some x) (h0 : 0 ≤ i) (hfit : i < 2 ^ 63) (h : ∀ t, Q (.int x t) s)
    (hs : subscripted slice false (.ref D) (.int i u) = operate [.ref D, .int i u] (getItem (.ref D) (.int i u)) := by with_unfolding_all rfl) :
    wpAny (model prog w) A (subscriptTail value slice (.ref D) (.int i u)) Q E s := by
  have hl : s.heap.IsList D vs := ⟨_, (N _ hm).1, rfl, k, rfl⟩
  rw [nthL_eq] at hx
  obtain ⟨t, ht⟩ := hi.get i.toNat x hx
  exact tail_any hl.typeIs slot_list_getitem.lookup (wpAny_getItem_list hl h0 hfit (by rw [← Array.getElem?_toList]; exact ht) (h t)) hs
theorem my_len {prog : Program} {w : World} {A : Around} {E : Value → Shared → Prop} {s : Shared} {h₀ : Heap} {L D : Addr} {news : List (Addr × Obj)} {ys : List Value} {ns : List Int} {k : Nat} {Q : Value → Shared → Prop}
    (N : News h₀ L s.heap news) (hm : (D, listOf ys.toArray k) ∈ news) (hi : IntsAre ys ns) (hz : ns.length ≤ 100) (h : ∀ t tk, Q (.int (ns.length : Nat) t) { s with toks := tk }) :
    wpAny (model prog w) A (call (.builtin "len") [.ref D]) Q E s := by
  have e : ys.toArray.size = ns.length := by rw [List.size_toArray]; exact hi.length
  refine PyProof.Rows.len_list (items := ys.toArray) ⟨_, (N _ hm).1, rfl, k, rfl⟩ (by rw [e]; omega) ?_
  rw [e]
  exact h _ _
theorem glue_ones : ∀ (l : List Nat) (acc : Array Nat), (l.map oneF).foldl (fun acc p => acc ++ (Str.ofString "").cps ++ p.cps) acc = acc ++ l.toArray
  | [], acc => by simp
  | a :: l, acc => by
    have e : (Str.ofString "").cps = #[] := by decide
    rw [List.map_cons, List.foldl_cons, glue_ones l, e]
    show acc ++ #[] ++ #[a] ++ l.toArray = acc ++ (a :: l).toArray
    apply Array.toList_inj.mp
    simp
theorem join_ones (l : List Nat) : Txt.join (Str.ofString "") (l.map oneF) = ⟨l.toArray⟩ := by
  cases l with
  | nil => rfl
  | cons a l =>
    show Str.mk (((a :: l).map oneF).drop 1 |>.foldl (fun acc p => acc ++ (Str.ofString "").cps ++ p.cps) #[a]) = _
    rw [List.map_cons, List.drop_one, List.tail_cons, glue_ones]
    congr 1
    apply Array.toList_inj.mp
    simp
theorem word_list (lo : List Str) (c : List (Str × Int)) : (wordF lo c).cps.toList = (List.range lo.length).map (codeF lo c) := by
  unfold wordF
  rw [join_ones]
theorem word_len (lo : List Str) (c : List (Str × Int)) : (wordF lo c).length = lo.length := by
  rw [str_len, word_list, List.length_map, List.length_range]
theorem news_two {h₀ h : Heap} {L ci cj : Addr} {oi oj : Obj} {lg : List (Addr × Obj)} (N : News h₀ L h lg) (hi : (ci, oi) ∈ lg) (hj : (cj, oj) ∈ lg) : ∃ rest, News h₀ L h ((ci, oi) :: (cj, oj) :: rest) ∧ (∀ p ∈ rest, @Ne Nat p.1 ci) ∧ (∀ p ∈ rest, @Ne Nat p.1 cj) ∧ (∀ p ∈ lg, @Ne Nat p.1 ci → @Ne Nat p.1 cj → p ∈ rest) := by
  refine ⟨lg.filter fun p => decide (@Ne Nat p.1 ci ∧ @Ne Nat p.1 cj), fun p hp => ?_, fun p hp => ?_, fun p hp => ?_, fun p hp h1 h2 => List.mem_filter.mpr ⟨hp, decide_eq_true ⟨h1, h2⟩⟩⟩
  · rcases List.mem_cons.mp hp with rfl | hp
    · exact N _ hi
    · rcases List.mem_cons.mp hp with rfl | hp
      · exact N _ hj
      · exact N _ (List.mem_filter.mp hp).1
  · exact (of_decide_eq_true (List.mem_filter.mp hp).2).1
  · exact (of_decide_eq_true (List.mem_filter.mp hp).2).2
theorem fr_alone {h₀ h : Heap} {L : Addr} {m₁ m₀ : Str → Option Value} {y : Str} (e : ∀ z, z ≠ y → m₁ z = m₀ z) (F : Fr h₀ L h m₁) : Fr h₀ L h (fun z => if z = y then m₁ z else m₀ z) := by
  have : (fun z => if z = y then m₁ z else m₀ z) = m₁ := by
    funext z
    by_cases hz : z = y
    · rw [if_pos hz]
    · rw [if_neg hz, e z hz]
  rw [this]
  exact F
theorem strs_item : ∀ {vs : List Value} {ss : List Str}, StrsAre vs ss → ∀ {i : Nat} {v : Value}, vs.toArray[i]? = some v → ∃ y t, ss[i]? = some y ∧ v = .str y t
  | _, _, .nil, i, v, h => by simp at h
  | _, _, .cons y t r, 0, v, h => by simp at h; exact ⟨y, t, rfl, h.symm⟩
  | _, _, .cons y t r, i + 1, v, h => strs_item r (i := i) (by simpa using h)
theorem abc_up {i : Nat} (h : i < 6) : (Str.ofString "ABCDEF").cps.toList.getD i 0 = 65 + i := by
  have key : ∀ i : Fin 6, (Str.ofString "ABCDEF").cps.toList.getD i.val 0 = 65 + i.val := by decide +kernel
  exact key ⟨i, h⟩
theorem abc_low {i : Nat} (h : i < 6) : (Str.ofString "abcdef").cps.toList.getD i 0 = 97 + i := by
  have key : ∀ i : Fin 6, (Str.ofString "abcdef").cps.toList.getD i.val 0 = 97 + i.val := by decide +kernel
  exact key ⟨i, h⟩
theorem ones_size (l : List Nat) (h : l.length ≤ 100) : (((l.map oneF).map (·.length)).sum + (l.map oneF).length * (Str.ofString "").length) ≤ 16777216 := by
  have e : ((l.map oneF).map (·.length)).sum = l.length := by
    clear h
    induction l with
    | nil => rfl
    | cons a l ih => simp only [List.map_cons, List.sum_cons, List.length_cons, ih]; show 1 + l.length = l.length + 1; omega
  have e2 : (Str.ofString "").length = 0 := by decide
  rw [e, e2]
  omega

end
section
open PySem PySem.W PySem.Spec PySem.Calls PyProof.Rows PyProof.Rows.LCg PyProof.Rows.LCt
set_option maxHeartbeats 0
set_option rowWalk.seconds 0
theorem words_sub {prog : Program} {w : World} {A : Around} {E : Value → Shared → Prop} {s : Shared} {h₀ : Heap} {L D : Addr} {news : List (Addr × Obj)} {vs : List Value} {ss : List Str} {i : Int} {j : Nat} {u : Tok} {k : Nat} {value slice : PySem.Expr} {Q : Value → Shared → Prop}
    (N : News h₀ L s.heap news) (hm : (D, W.listOf vs.toArray k) ∈ news) (hi : StrsAre vs ss) (e : i = (j : Int)) (h1 : j < ss.length) (hz : ss.length ≤ 100) (h : ∀ t, Q (.str (ss.getD j (Str.ofString "")) t) s)
    (hs : subscripted slice false (.ref D) (.int i u) = operate [.ref D, .int i u] (getItem (.ref D) (.int i u)) := by with_unfolding_all rfl) :
    wpAny (model prog w) A (subscriptTail value slice (.ref D) (.int i u)) Q E s := by
  have hl : s.heap.IsList D vs.toArray := ⟨_, (N _ hm).1, rfl, k, rfl⟩
  obtain ⟨t, ht⟩ := strs_at hi h1
  have a1 : 0 ≤ i := by omega
  have a2 : i < 2 ^ 63 := by omega
  have a3 : vs.toArray[i.toNat]? = some (.str (ss.getD j (Str.ofString "")) t) := by rw [e, Int.toNat_natCast]; simpa using ht
  exact tail_any hl.typeIs slot_list_getitem.lookup (wpAny_getItem_list hl a1 a2 a3 (h t)) hs
theorem ways_sub {prog : Program} {w : World} {A : Around} {E : Value → Shared → Prop} {s : Shared} {h₀ : Heap} {L D : Addr} {news : List (Addr × Obj)} {vs : List Value} {ns : List Int} {i : Int} {j : Nat} {u : Tok} {k : Nat} {value slice : PySem.Expr} {Q : Value → Shared → Prop}
    (N : News h₀ L s.heap news) (hm : (D, W.listOf vs.toArray k) ∈ news) (hi : IntsAre vs ns) (e : i = (j : Int)) (h1 : j < ns.length) (hz : ns.length ≤ 100) (h : ∀ t, Q (.int (ns.getD j 0) t) s)
    (hs : subscripted slice false (.ref D) (.int i u) = operate [.ref D, .int i u] (getItem (.ref D) (.int i u)) := by with_unfolding_all rfl) :
    wpAny (model prog w) A (subscriptTail value slice (.ref D) (.int i u)) Q E s := by
  have hl : s.heap.IsList D vs.toArray := ⟨_, (N _ hm).1, rfl, k, rfl⟩
  obtain ⟨t, ht⟩ := hi.get j (ns.getD j 0) (by rw [List.getD_eq_getElem?_getD, List.getElem?_eq_getElem h1]; rfl)
  have a1 : 0 ≤ i := by omega
  have a2 : i < 2 ^ 63 := by omega
  have a3 : vs.toArray[i.toNat]? = some (.int (ns.getD j 0) t) := by rw [e, Int.toNat_natCast]; simpa using ht
  exact tail_any hl.typeIs slot_list_getitem.lookup (wpAny_getItem_list hl a1 a2 a3 (h t)) hs
theorem rs_small {i : Nat} (h : i < 3) : Builtin.Range.small 0 (i : Int) 1 = true ∧ Builtin.Range.rangeSize 0 (i : Int) 1 = (i : Int) := by
  rcases (show i = 0 ∨ i = 1 ∨ i = 2 by omega) with rfl | rfl | rfl <;> exact ⟨by decide, rfl⟩
theorem pair_pick {goal : Prop} {rest : List (Addr × Obj)} {b0 b1 b2 : Addr} {v0 v1 v2 : List Value} {k0 k1 k2 n : Nat} {x0 x1 x2 : List Int} {WS : List Str} {e0 e1 e2 : Int}
    (m0 : (b0, W.listOf v0.toArray k0) ∈ rest) (m1 : (b1, W.listOf v1.toArray k1) ∈ rest) (m2 : (b2, W.listOf v2.toArray k2) ∈ rest) (i0 : IntsAre v0 x0) (i1 : IntsAre v1 x1) (i2 : IntsAre v2 x2) (z0 : x0.length ≤ 3) (z1 : x1.length ≤ 3) (z2 : x2.length ≤ 3)
    (p10 : ∀ v, LevIs n (WS.getD 0 (Str.ofString "")) (WS.getD 1 (Str.ofString "")) v → v = ((x1 ++ x0).filter (loneF x1 x0)).length) (p20 : ∀ v, LevIs n (WS.getD 0 (Str.ofString "")) (WS.getD 2 (Str.ofString "")) v → v = ((x2 ++ x0).filter (loneF x2 x0)).length) (p21 : ∀ v, LevIs n (WS.getD 1 (Str.ofString "")) (WS.getD 2 (Str.ofString "")) v → v = ((x2 ++ x1).filter (loneF x2 x1)).length)
    (s10 : e1 + e0 = ((x1 ++ x0).filter (loneF x1 x0)).length) (s20 : e2 + e0 = ((x2 ++ x0).filter (loneF x2 x0)).length) (s21 : e2 + e1 = ((x2 ++ x1).filter (loneF x2 x1)).length) {i j : Nat} (hi : i < 3) (hj : j < i)
    (k : ∀ aI vI kI xI aJ vJ kJ xJ, #[Value.ref b0, Value.ref b1, Value.ref b2][i]? = some (Value.ref aI) → (aI, W.listOf (List.toArray vI) kI) ∈ rest → IntsAre vI xI → xI.length ≤ 3 → #[Value.ref b0, Value.ref b1, Value.ref b2][j]? = some (Value.ref aJ) → (aJ, W.listOf (List.toArray vJ) kJ) ∈ rest → IntsAre vJ xJ → xJ.length ≤ 3 →
      (∀ v, LevIs n (WS.getD j (Str.ofString "")) (WS.getD i (Str.ofString "")) v → v = ((xI ++ xJ).filter (loneF xI xJ)).length) → [e0, e1, e2].getD i 0 + [e0, e1, e2].getD j 0 = ((xI ++ xJ).filter (loneF xI xJ)).length → goal) : goal := by
  rcases (show (i = 1 ∧ j = 0) ∨ (i = 2 ∧ j = 0) ∨ (i = 2 ∧ j = 1) by omega) with ⟨rfl, rfl⟩ | ⟨rfl, rfl⟩ | ⟨rfl, rfl⟩
  · exact k b1 v1 k1 x1 b0 v0 k0 x0 rfl m1 i1 z1 rfl m0 i0 z0 p10 s10
  · exact k b2 v2 k2 x2 b0 v0 k0 x0 rfl m2 i2 z2 rfl m0 i0 z0 p20 s20
  · exact k b2 v2 k2 x2 b1 v1 k1 x1 rfl m2 i2 z2 rfl m1 i1 z1 p21 s21
section
theorem c_between (w : World) (mean : ExcName → Option Value) (mg mb : Str → Option Value) (r lt am ah a0 a1 a2 b0 b1 b2 : Addr) (o0 o1 o2 om oh : Obj) (kr kl k0 k1 k2 : Nat) (c0 c1 c2 cm ch : List (Str × Int)) (v0 v1 v2 : List Value) (x0 x1 x2 : List Int) (e0 e1 e2 : Int)
    (d0 : DS w o0 c0) (d1 : DS w o1 c1) (d2 : DS w o2 c2) (dm : DS w om cm) (dh : DS w oh ch) (s0 : (a0 == sysModules) = false) (s1 : (a1 == sysModules) = false) (s2 : (a2 == sysModules) = false) (sm : (am == sysModules) = false) (sh : (ah == sysModules) = false)
    (i0 : IntsAre v0 x0) (i1 : IntsAre v1 x1) (i2 : IntsAre v2 x2) (z0 : x0.length ≤ 3) (z1 : x1.length ≤ 3) (z2 : x2.length ≤ 3) (hlen : ch.length ≤ 16) (hnd : (keysF ch).Nodup) (hlo : (looseF ch).length ≤ 6)
    (hE : ∀ k < 3, ∀ v, LevIs (looseF ch).length ([wordF (looseF ch) c0, wordF (looseF ch) c1, wordF (looseF ch) c2, wordF (looseF ch) cm].getD k (Str.ofString "")) (wordF (looseF ch) cm) v → v = [e0, e1, e2].getD k 0)
    (hP10 : (∀ v, LevIs (looseF ch).length (wordF (looseF ch) c0) (wordF (looseF ch) c1) v → v = ((x1 ++ x0).filter (loneF x1 x0)).length) ∧ e1 + e0 = ((x1 ++ x0).filter (loneF x1 x0)).length)
    (hP20 : (∀ v, LevIs (looseF ch).length (wordF (looseF ch) c0) (wordF (looseF ch) c2) v → v = ((x2 ++ x0).filter (loneF x2 x0)).length) ∧ e2 + e0 = ((x2 ++ x0).filter (loneF x2 x0)).length)
    (hP21 : (∀ v, LevIs (looseF ch).length (wordF (looseF ch) c1) (wordF (looseF ch) c2) v → v = ((x2 ++ x1).filter (loneF x2 x1)).length) ∧ e2 + e1 = ((x2 ++ x1).filter (loneF x2 x1)).length) :
    Spec w mean mg mb 105 20 [Value.ref r, Value.ref am, Value.ref ah, Value.ref lt] (fun news => (r, listOf #[.ref a0, .ref a1, .ref a2] kr) ∈ news ∧ (lt, listOf #[.ref b0, .ref b1, .ref b2] kl) ∈ news ∧ (a0, o0) ∈ news ∧ (a1, o1) ∈ news ∧ (a2, o2) ∈ news ∧ (am, om) ∈ news ∧ (ah, oh) ∈ news ∧ (b0, listOf v0.toArray k0) ∈ news ∧ (b1, listOf v1.toArray k1) ∈ news ∧ (b2, listOf v2.toArray k2) ∈ news)
      (fun tl v => tl = [] ∧ v = .bool true) := by
  w_top off
  k_with_none
  k_with "call builtin:list.extend" => (k_here; (with_reducible show wpAny _ _ (call (Value.builtin _) [Value.ref _, Value.ref _]) _ _ _); k_dflt (refine' my_extend ?zwF ?zwN ?zwU ?zwb ?zwi ?zwj ?zwz ?_; (case zwF => k_asm); (case zwN => k_asm); (case zwb => k_mem); (case zwU => (intro t'; k_upd)); (case zwi => assumption); (case zwj => assumption); (case zwz => (rw [sizeLine_eq]; omega))); intro k' h' F' N' i')
  k_with "call builtin:iter" => (k_here; (with_reducible show wpAny _ _ (call (Value.builtin "iter") [Value.ref _]) _ _ _); k_dflt (refine' my_iter ?zwF ?zwN ?zwm ?_; (case zwF => k_asm); (case zwN => k_asm); (case zwm => k_mem)); intro I' h' F' N' l1; (try k_lt l1))
  k_with "eval ListComp" => (k_here; first | ((with_reducible show wpAny _ _ (eval (Expr.ListComp _ [PySem.Comprehension.mk _ _ [_] _] _ _) _) _ _ _); k_dflt (refine' ListComp_TD ?zwkF ?zwkclos ?zwkcell ?zwkkind ?zwkn ?zwkx ?_ ?zwks; (case zwkF => k_asm); (case zwkclos => rfl); (case zwkcell => decide); (case zwkkind => rfl); (case zwkn => decide); (case zwkx => rfl); (case zwks => intro _; rfl))) | ((with_reducible show wpAny _ _ (eval (Expr.ListComp _ [PySem.Comprehension.mk _ _ [] _] _ _) _) _ _ _); k_dflt (refine' ListComp_K ?zwkF ?zwkclos ?zwkcf ?zwkpc ?zwkkind ?zwkn ?zwkxk ?_ ?zwks; (case zwkF => k_asm); (case zwkclos => rfl); (case zwkcf => exact fun _ => rfl); (case zwkpc => exact fun _ => rfl); (case zwkkind => rfl); (case zwkn => decide); (case zwkxk => exact fun _ _ => rfl); (case zwks => intro _; rfl))))
  k_with "CompSrcT" => refine Stop.mk ?_
  k_with "CompSrc" => refine Stop.mk ?_
  k_with "subscriptTail Name Name ref str" => (k_here; (with_reducible show wpAny _ _ (subscriptTail _ _ (Value.ref _) (Value.str _ _)) _ _ _); k_dflt (refine' my_dsub ?zwN ?zwm ?zwlo ?zwd ?zwf ?zwh ?_ ?zwhs ?zwhg; (case zwN => k_asm); (case zwm => k_mem); (case zwlo => assumption); (case zwd => assumption); (case zwf => assumption); (case zwh => assumption); (case zwhs => with_unfolding_all rfl); (case zwhg => (intro _; with_unfolding_all rfl))); intro t')
  k_with "compareOp In str ref" => (k_here; k_dflt (refine' my_din ?zwN ?zwm ?zwlo ?zwd ?zwf ?_; (case zwN => k_asm); (case zwm => k_mem); (case zwlo => assumption); (case zwd => assumption); (case zwf => assumption)))
  k_with "call builtin:list.index" => (k_here; k_dflt (refine' str_index ?zwN ?zwm ?zwi ?zwn ?zwz ?zwe ?_; (case zwN => k_asm); (case zwm => k_mem); (case zwi => assumption); (case zwn => assumption); (case zwz => omega); (case zwe => assumption)))
  k_with "call builtin:str.join" => refine Stop.mk ?_
  k_with "subscriptTail Name Name ref int" => (k_here; (with_reducible show wpAny _ _ (subscriptTail _ _ (Value.ref _) (Value.int _ _)) _ _ _); first | (k_dflt (refine' its_sub ?zwk1 ?zwk2 rfl ?zwk4 ?zwk5 ?_ ?zwk7; (case zwk1 => k_asm); (case zwk2 => k_mem); (case zwk4 => with_reducible assumption); (case zwk5 => with_reducible assumption); (case zwk7 => with_unfolding_all rfl); k_whole)) | (k_dflt (refine' words_sub ?zwk1 ?zwk2 ?zwk3 rfl ?zwk4 ?zwk5 ?_ ?zwk7; (case zwk1 => k_asm); (case zwk2 => k_mem); (case zwk3 => with_reducible assumption); (case zwk4 => with_reducible assumption); (case zwk5 => with_reducible assumption); (case zwk7 => with_unfolding_all rfl); k_whole); intro _) | (k_dflt (refine' ways_sub ?zwk1 ?zwk2 ?zwk3 rfl ?zwk4 ?zwk5 ?_ ?zwk7; (case zwk1 => k_asm); (case zwk2 => k_mem); (case zwk3 => with_reducible assumption); (case zwk4 => with_reducible assumption); (case zwk5 => with_reducible assumption); (case zwk7 => with_unfolding_all rfl); k_whole); intro _))
  k_with "subscriptTail Name Constant ref int" => (k_here; (with_reducible show wpAny _ _ (subscriptTail _ _ (Value.ref _) (Value.int _ _)) _ _ _); first | (k_dflt (refine' str_sub ?zwk1 ?zwk2 ?zwk3 ?zwk4 ?zwk5 ?zwk6 ?_ ?zwk7; (case zwk1 => k_asm); (case zwk2 => k_mem); (case zwk3 => assumption); (case zwk4 => omega); (case zwk5 => omega); (case zwk6 => omega); (case zwk7 => with_unfolding_all rfl); k_whole); intro _) | (k_dflt (refine' nint_sub ?zwk1 ?zwk2 ?zwk3 ?zwk4 ?zwk5 ?zwk6 ?_ ?zwk7; (case zwk1 => k_asm); (case zwk2 => k_mem); (case zwk3 => assumption); (case zwk4 => rfl); (case zwk5 => decide); (case zwk6 => decide); (case zwk7 => with_unfolding_all rfl); k_whole); intro _) | (k_dflt (refine' lit_sub ?zwk1 ?zwk2 ?zwk3 ?zwk4 ?zwk5 ?_ ?zwk7; (case zwk1 => k_asm); (case zwk2 => k_mem); (case zwk3 => rfl); (case zwk4 => decide); (case zwk5 => decide); (case zwk7 => with_unfolding_all rfl); k_whole)))
  k_with "exec For Name Call cons nil" => refine wpAny_For ?_
  k_with "pyIter ref" => refine Stop.mk ?_
  k_with "compareOp NotIn int ref" => (k_here; k_dflt (refine' my_notin ?zwN ?zwm ?zwi ?_; (case zwN => k_asm); (case zwm => k_mem); (case zwi => assumption)))
  k_with "call builtin:len cons nil" => (k_here; (with_reducible show wpAny _ _ (call (Value.builtin _) [Value.ref _]) _ _ _); k_dflt (refine' my_len ?zwN ?zwm ?zwi ?zwz ?_; (case zwN => k_asm); (case zwm => k_mem); (case zwi => assumption); (case zwz => assumption)); intro _ _)
  have : (Challenge.rw_rs0060_01 = Challenge.rw_rs0060_01 ∧ Mine.hd.heap_39 = Mine.hd.heap_39) := by k_fill; exact ⟨rfl, rfl⟩
  clear this
  have kMark := kstMark
  intro dp un gd cn cs a ccd cl outer A₀ base h₀ L m news s Q E B F X N T hk hP hdp hun hret
  refine wpAny_call ?_
  k_dflt (refine' code_defC ?k1 ?k2 ?k3 ?k4 ?k5 ?kA ?kF ?kK ?k6 ?k7 ?k8 ?k9 ?kB ?kD ?_ ?c2 ?c3 ?c4; (case kA => exact rfl); (case kF => exact rfl); (case kK => assumption); (case k1 => k_asm); (case k2 => k_asm); (case k3 => k_asm); (case k4 => k_asm); (case k5 => k_asm); (case k6 => k_is); (case k7 => k_is); (case k8 => ktr_room); (case k9 => exact BindsTo.of_eq rfl); (case kB => exact rfl); (case kD => decide +kernel); (case c2 => exact rfl); (case c3 => exact rfl); (case c4 => exact rfl); k_whole; intro g' L' h' tk' cells' FG' F' N' Y' B' X' T' l1; (try k_lt l1); k_cells Y'; (try simp only [List.cons_append, List.nil_append] at N'); (try dsimp only); (try k_fold))
  have lc1 : ∀ p ∈ news, p.1 < L' + 1 := fun p hp => Nat.lt_succ_of_lt (l1 p hp)
  have lc2 : ∀ p ∈ news, p.1 < L' + 1 + 1 := fun p hp => Nat.lt_succ_of_lt (lc1 p hp)
  have lc3 : ∀ p ∈ news, p.1 < L' + 1 + 1 + 1 := fun p hp => Nat.lt_succ_of_lt (lc2 p hp)
  have lc4 : ∀ p ∈ news, p.1 < L' + 1 + 1 + 1 + 1 := fun p hp => Nat.lt_succ_of_lt (lc3 p hp)
  have lc5 : ∀ p ∈ news, p.1 < L' + 1 + 1 + 1 + 1 + 1 := fun p hp => Nat.lt_succ_of_lt (lc4 p hp)
  have lc6 : ∀ p ∈ news, p.1 < L' + 1 + 1 + 1 + 1 + 1 + 1 := fun p hp => Nat.lt_succ_of_lt (lc5 p hp)
  obtain ⟨hr, hl, hm0, hm1, hm2, hmm, hmh, hb0, hb1, hb2⟩ := hP
  k_with_none
  k_with "call builtin:list.extend" => (k_here; (with_reducible show wpAny _ _ (call (Value.builtin _) [Value.ref _, Value.ref _]) _ _ _); k_dflt (refine' my_extend ?zwF ?zwN ?zwU ?zwb ?zwi ?zwj ?zwz ?_; (case zwF => k_asm); (case zwN => k_asm); (case zwb => k_mem); (case zwU => (intro t'; k_upd)); (case zwi => assumption); (case zwj => assumption); (case zwz => (rw [sizeLine_eq]; omega))); intro k' h' F' N' i')
  k_with "call builtin:iter" => (k_here; (with_reducible show wpAny _ _ (call (Value.builtin "iter") [Value.ref _]) _ _ _); k_dflt (refine' my_iter ?zwF ?zwN ?zwm ?_; (case zwF => k_asm); (case zwN => k_asm); (case zwm => k_mem)); intro I' h' F' N' l1; (try k_lt l1))
  k_with "eval ListComp" => (k_here; first | ((with_reducible show wpAny _ _ (eval (Expr.ListComp _ [PySem.Comprehension.mk _ _ [_] _] _ _) _) _ _ _); k_dflt (refine' ListComp_TD ?zwkF ?zwkclos ?zwkcell ?zwkkind ?zwkn ?zwkx ?_ ?zwks; (case zwkF => k_asm); (case zwkclos => rfl); (case zwkcell => decide); (case zwkkind => rfl); (case zwkn => decide); (case zwkx => rfl); (case zwks => intro _; rfl))) | ((with_reducible show wpAny _ _ (eval (Expr.ListComp _ [PySem.Comprehension.mk _ _ [] _] _ _) _) _ _ _); k_dflt (refine' ListComp_K ?zwkF ?zwkclos ?zwkcf ?zwkpc ?zwkkind ?zwkn ?zwkxk ?_ ?zwks; (case zwkF => k_asm); (case zwkclos => rfl); (case zwkcf => exact fun _ => rfl); (case zwkpc => exact fun _ => rfl); (case zwkkind => rfl); (case zwkn => decide); (case zwkxk => exact fun _ _ => rfl); (case zwks => intro _; rfl))))
  k_with "CompSrcT" => refine Stop.mk ?_
  k_with "CompSrc" => refine Stop.mk ?_
  k_with "subscriptTail Name Name ref str" => (k_here; (with_reducible show wpAny _ _ (subscriptTail _ _ (Value.ref _) (Value.str _ _)) _ _ _); k_dflt (refine' my_dsub ?zwN ?zwm ?zwlo ?zwd ?zwf ?zwh ?_ ?zwhs ?zwhg; (case zwN => k_asm); (case zwm => k_mem); (case zwlo => assumption); (case zwd => assumption); (case zwf => assumption); (case zwh => assumption); (case zwhs => with_unfolding_all rfl); (case zwhg => (intro _; with_unfolding_all rfl))); intro t')
  k_with "compareOp In str ref" => (k_here; k_dflt (refine' my_din ?zwN ?zwm ?zwlo ?zwd ?zwf ?_; (case zwN => k_asm); (case zwm => k_mem); (case zwlo => assumption); (case zwd => assumption); (case zwf => assumption)))
  k_with "call builtin:list.index" => (k_here; k_dflt (refine' str_index ?zwN ?zwm ?zwi ?zwn ?zwz ?zwe ?_; (case zwN => k_asm); (case zwm => k_mem); (case zwi => assumption); (case zwn => assumption); (case zwz => omega); (case zwe => assumption)))
  k_with "call builtin:str.join" => refine Stop.mk ?_
  k_with "subscriptTail Name Name ref int" => (k_here; (with_reducible show wpAny _ _ (subscriptTail _ _ (Value.ref _) (Value.int _ _)) _ _ _); first | (k_dflt (refine' its_sub ?zwk1 ?zwk2 rfl ?zwk4 ?zwk5 ?_ ?zwk7; (case zwk1 => k_asm); (case zwk2 => k_mem); (case zwk4 => with_reducible assumption); (case zwk5 => with_reducible assumption); (case zwk7 => with_unfolding_all rfl); k_whole)) | (k_dflt (refine' words_sub ?zwk1 ?zwk2 ?zwk3 rfl ?zwk4 ?zwk5 ?_ ?zwk7; (case zwk1 => k_asm); (case zwk2 => k_mem); (case zwk3 => with_reducible assumption); (case zwk4 => with_reducible assumption); (case zwk5 => with_reducible assumption); (case zwk7 => with_unfolding_all rfl); k_whole); intro _) | (k_dflt (refine' ways_sub ?zwk1 ?zwk2 ?zwk3 rfl ?zwk4 ?zwk5 ?_ ?zwk7; (case zwk1 => k_asm); (case zwk2 => k_mem); (case zwk3 => with_reducible assumption); (case zwk4 => with_reducible assumption); (case zwk5 => with_reducible assumption); (case zwk7 => with_unfolding_all rfl); k_whole); intro _))
  k_with "subscriptTail Name Constant ref int" => (k_here; (with_reducible show wpAny _ _ (subscriptTail _ _ (Value.ref _) (Value.int _ _)) _ _ _); first | (k_dflt (refine' str_sub ?zwk1 ?zwk2 ?zwk3 ?zwk4 ?zwk5 ?zwk6 ?_ ?zwk7; (case zwk1 => k_asm); (case zwk2 => k_mem); (case zwk3 => assumption); (case zwk4 => omega); (case zwk5 => omega); (case zwk6 => omega); (case zwk7 => with_unfolding_all rfl); k_whole); intro _) | (k_dflt (refine' nint_sub ?zwk1 ?zwk2 ?zwk3 ?zwk4 ?zwk5 ?zwk6 ?_ ?zwk7; (case zwk1 => k_asm); (case zwk2 => k_mem); (case zwk3 => assumption); (case zwk4 => rfl); (case zwk5 => decide); (case zwk6 => decide); (case zwk7 => with_unfolding_all rfl); k_whole); intro _) | (k_dflt (refine' lit_sub ?zwk1 ?zwk2 ?zwk3 ?zwk4 ?zwk5 ?_ ?zwk7; (case zwk1 => k_asm); (case zwk2 => k_mem); (case zwk3 => rfl); (case zwk4 => decide); (case zwk5 => decide); (case zwk7 => with_unfolding_all rfl); k_whole)))
  k_with "exec For Name Call cons nil" => refine wpAny_For ?_
  k_with "pyIter ref" => refine Stop.mk ?_
  k_with "compareOp NotIn int ref" => (k_here; k_dflt (refine' my_notin ?zwN ?zwm ?zwi ?_; (case zwN => k_asm); (case zwm => k_mem); (case zwi => assumption)))
  k_with "call builtin:len cons nil" => (k_here; (with_reducible show wpAny _ _ (call (Value.builtin _) [Value.ref _]) _ _ _); k_dflt (refine' my_len ?zwN ?zwm ?zwi ?zwz ?_; (case zwN => k_asm); (case zwm => k_mem); (case zwi => assumption); (case zwz => assumption)); intro _ _)
  k_steps
  obtain ⟨kvsh, hdh, hfh⟩ := dh
  have flh := flat_len hfh
  k_dflt (refine SrcTD.dict (by rfl) (by k_asm) (by k_asm) (by k_mem) hdh sh (by rw [sizeLine_eq, flh]; omega) ?_)
  intro g9
  refine compT_fix (fun i ys => StrsAre ys (((keysF ch).take i).filter fun y => decide (kdpLook ch y 0 < 3))) .nil ?_ ?_
  · rintro i9 ys9 hi9 hJ9 v9 I9 oI9 C9 oC9 D9 m9 h9 tk9 E9 ⟨y9, t9, w9, hk9, rfl⟩ hC9 hx9 F9 N9 off9 ne9
    have ky9 := keys_at (w := w) hfh ⟨w9, hk9⟩
    have kh9 := keys_has (List.mem_of_getElem? ky9)
    k_steps
    · rename News _ _ _ _ => nE
      rename kdpLook ch y9 0 < 3 => hb9
      refine comp_end (by assumption) nE (by walk_at "sub") off9 (by k_mem) ?_
      show StrsAre _ _
      rw [take_snoc ky9, List.filter_append, List.filter_cons, if_pos (decide_eq_true hb9)]
      exact strsAre_append hJ9 (.cons _ _ .nil)
    · rename News _ _ _ _ => nE
      rename ¬ kdpLook ch y9 0 < 3 => hb9
      refine comp_end (by assumption) nE (by walk_at "sub") off9 (by k_mem) ?_
      show StrsAre _ _
      rw [take_snoc ky9, List.filter_append, List.filter_cons, if_neg (fun h => hb9 (of_decide_eq_true h)), List.filter_nil, List.append_nil]
      exact hJ9
  · intro ys9 hJ9
    have hL9 : StrsAre ys9 (looseF ch) := by
      unfold looseF
      rw [List.take_of_length_le (by rw [keys_len, flh]; exact Nat.le_refl _)] at hJ9
      exact hJ9
    clear hJ9
    have hLl9 := StrsAre.length hL9
    unfold LCg.FinE
    intro Dl hl9 tkl Fl Nl ol
    (try simp only [LCg.Off1, and_true] at ol); (try simp only [List.nil_append, List.cons_append] at Nl); (try dsimp only)
    k_steps
    rename News _ _ _ _ => nN
    have hndl : (looseF ch).Nodup := List.Nodup.sublist List.filter_sublist hnd
    obtain ⟨WS, hWS⟩ : ∃ WS, WS = [wordF (looseF ch) c0, wordF (looseF ch) c1, wordF (looseF ch) c2, wordF (looseF ch) cm] := ⟨_, rfl⟩
    refine srcLK_fix (fun i ys => StrsAre ys (WS.take i)) rfl (by assumption) nN (by k_mem) (by first | size_fits | exact Nat.le_of_ble_eq_true rfl) .nil ?_ ?_
    · intro i9 zs9 hi9 hJ9 v9 I9 oI9 C9 oC9 K9 oK9 D9 h9 tk9 E9 g9 hv9 hK9 F9 N9 off9 ne9
      obtain ⟨ac, oc, cc, kvc, rfl, hmc, hdc, hfc, sc, hwc⟩ : ∃ ac oc cc kvc, v9 = Value.ref ac ∧ (ac, oc) ∈ news ∧ oc.IsDictOf (PySem.strKind PG w) kvc ∧ PyProof.V.FlatPairs PyData.str kvc (kdpD cc) ∧ (ac == sysModules) = false ∧ WS[i9]? = some (wordF (looseF ch) cc) := by
        have hi4 : i9 < 4 := hi9
        subst hWS
        rcases (show i9 = 0 ∨ i9 = 1 ∨ i9 = 2 ∨ i9 = 3 by omega) with rfl | rfl | rfl | rfl
        · obtain ⟨kv, q1, q2⟩ := d0
          exact ⟨a0, o0, c0, kv, (Option.some.inj hv9).symm, hm0, q1, q2, s0, rfl⟩
        · obtain ⟨kv, q1, q2⟩ := d1
          exact ⟨a1, o1, c1, kv, (Option.some.inj hv9).symm, hm1, q1, q2, s1, rfl⟩
        · obtain ⟨kv, q1, q2⟩ := d2
          exact ⟨a2, o2, c2, kv, (Option.some.inj hv9).symm, hm2, q1, q2, s2, rfl⟩
        · obtain ⟨kv, q1, q2⟩ := dm
          exact ⟨am, om, cm, kv, (Option.some.inj hv9).symm, hmm, q1, q2, sm, rfl⟩
      k_steps
      refine Stop.go ?_
      k_dflt (refine LCg.CompSrc.ledger (by rfl) (by k_asm) (by k_asm) (by k_mem) (by rw [sizeLine_eq, List.size_toArray]; omega) ?_)
      intro g8
      refine comp_fix (fun i ys => StrsAre ys (((List.range i).map (codeF (looseF ch) cc)).map oneF)) .nil ?_ ?_
      · intro i8 ys8 hi8 hJ8 v8 I8 oI8 C8 oC8 D8 m8 h8 tk8 E8 hv8 hC8 hx8 F8 N8 off8 ne8
        obtain ⟨y8, t8, e8, rfl⟩ := strs_item hL9 hv8
        have hi8' : i8 < (looseF ch).length := (List.getElem?_eq_some_iff.mp e8).1
        have ey8 : (looseF ch).getD i8 (Str.ofString "") = y8 := by rw [List.getD_eq_getElem?_getD, e8]; rfl
        have hi6 : i8 < 6 := by omega
        k_steps
        · rename News _ _ _ _ => nE
          rename kdpHas cc y8 = true => hb9
          refine comp_end (by assumption) nE (by walk_at "sub") off8 (.inr ⟨_, by k_mem, rfl, _, rfl⟩) ?_
          show StrsAre _ _
          rw [List.range_succ, List.map_append, List.map_append]
          refine strsAre_append hJ8 ?_
          have e : Txt.item (Str.ofString "ABCDEF") (i8 : Int) = oneF (codeF (looseF ch) cc i8) := by
            rw [item_at (by omega) (by show (i8 : Int) < 6; omega)]
            unfold codeF
            rw [ey8, if_pos hb9]
            show Str.mk #[(Str.ofString "ABCDEF").cps.toList.getD i8 0] = _
            rw [abc_up hi6]
            rfl
          show StrsAre _ [oneF (codeF (looseF ch) cc i8)]
          rw [← e]
          exact .cons _ _ .nil
        · rename News _ _ _ _ => nE
          rename kdpHas cc y8 = false => hb9
          refine comp_end (by assumption) nE (by walk_at "sub") off8 (.inr ⟨_, by k_mem, rfl, _, rfl⟩) ?_
          show StrsAre _ _
          rw [List.range_succ, List.map_append, List.map_append]
          refine strsAre_append hJ8 ?_
          have e : Txt.item (Str.ofString "abcdef") (i8 : Int) = oneF (codeF (looseF ch) cc i8) := by
            rw [item_at (by omega) (by show (i8 : Int) < 6; omega)]
            unfold codeF
            rw [ey8, if_neg (by rw [hb9]; exact Bool.false_ne_true)]
            show Str.mk #[(Str.ofString "abcdef").cps.toList.getD i8 0] = _
            rw [abc_low hi6]
            rfl
          show StrsAre _ [oneF (codeF (looseF ch) cc i8)]
          rw [← e]
          exact .cons _ _ .nil
      · intro ys8 hJ8
        rw [List.size_toArray, hLl9] at hJ8
        k_steps
        refine Stop.go ?_
        rename News _ _ _ _ => nE
        refine join_list ⟨_, (nE _ List.mem_cons_self).1, rfl, _, rfl⟩ hJ8 (ones_size _ (by rw [List.length_map, List.length_range]; omega)) ?_
        intro t7 k7
        k_steps
        rename News _ _ _ _ => nE
        refine endK_fix (by assumption) nE (by walk_at "sub") off9 (by k_mem) ?_
        show StrsAre _ (WS.take (i9 + 1))
        rw [take_snoc hwc]
        exact strsAre_append hJ9 (.cons _ _ .nil)
    · intro Dw hw tkw ysw hJw Fw Nw ltw
      have hJw : StrsAre ysw WS := by
        have e : WS.take 4 = WS := by subst hWS; rfl
        rw [← e]
        exact hJw
      have hWl := StrsAre.length hJw
      (try k_lt ltw)
      have hWSl : WS.length = 4 := by subst hWS; rfl
      have hWlen : ∀ i, i < 4 → (WS.getD i (Str.ofString "")).length = (looseF ch).length := by
        intro i hi
        subst hWS
        rcases (show i = 0 ∨ i = 1 ∨ i = 2 ∨ i = 3 by omega) with rfl | rfl | rfl | rfl <;> exact word_len _ _
      have hE' : ∀ k < 3, ∀ v, LevIs (looseF ch).length (WS.getD k (Str.ofString "")) (WS.getD 3 (Str.ofString "")) v → v = [e0, e1, e2].getD k 0 := by
        subst hWS
        exact hE
      have hP10' : ∀ v, LevIs (looseF ch).length (WS.getD 0 (Str.ofString "")) (WS.getD 1 (Str.ofString "")) v → v = ((x1 ++ x0).filter (loneF x1 x0)).length := by subst hWS; exact hP10.1
      have hP20' : ∀ v, LevIs (looseF ch).length (WS.getD 0 (Str.ofString "")) (WS.getD 2 (Str.ofString "")) v → v = ((x2 ++ x0).filter (loneF x2 x0)).length := by subst hWS; exact hP20.1
      have hP21' : ∀ v, LevIs (looseF ch).length (WS.getD 1 (Str.ofString "")) (WS.getD 2 (Str.ofString "")) v → v = ((x2 ++ x1).filter (loneF x2 x1)).length := by subst hWS; exact hP21.1
      have hS10 := hP10.2
      have hS20 := hP20.2
      have hS21 := hP21.2
      k_steps
      refine Stop.go ?_
      k_dflt (refine LCg.CompSrc.range (by rfl) (by k_asm) (by k_asm) (by assumption) (by first | decide | rfl) (by first | rfl | decide) (by first | size_fits | exact Nat.le_of_ble_eq_true rfl) ?_)
      intro g7
      refine comp_fix (fun i ys => IntsAre ys ((List.range i).map fun k => [e0, e1, e2].getD k 0)) .nil ?_ ?_
      · rintro i7 ys7 hi7 hJ7 v7 I7 oI7 C7 oC7 D7 m7 h7 tk7 E7 ⟨t7, rfl⟩ hC7 hx7 F7 N7 off7 ne7
        have hi3 : i7 < 3 := hi7
        have hI4 : i7 < WS.length := by rw [hWSl]; omega
        have hW4 : WS.length ≤ 100 := by rw [hWSl]; omega
        simp only [Int.zero_add] at hx7
        k_with "call ref" => (k_dflt (refine' Spec.use (c_lev w mean mg mb _ _ _ _ _ (looseF ch).length ?kx ?ky hlo) ?k1 ?k2 ?k3 ?k4 ?k5 ?k6 ?k7 ?k8 ?k9 ?_); (case kx => exact hWlen _ (by omega)); (case ky => exact hWlen _ (by omega)); (case k1 => k_asm); (case k2 => k_asm); (case k3 => k_asm); (case k4 => k_asm); (case k5 => k_asm); (case k6 => exact rfl); (case k7 => exact trivial); (case k8 => ktr_room); (case k9 => ktr_units); intro r9 tl9 h9 tk9 F9 N9 g9 p9; obtain ⟨rfl, w9, t9, rfl, hw9⟩ := p9; clear g9; simp only [List.nil_append] at N9; (try dsimp only); (try k_fold))
        k_steps
        rename News _ _ _ _ => nE
        refine comp_end (by assumption) nE (by walk_at "sub") off7 trivial ?_
        show IntsAre _ _
        rw [List.range_succ, List.map_append, List.map_singleton, ← hE' i7 hi3 w9 hw9]
        exact hJ7.append (.cons _ _ .nil)
      · intro ysy hJy
        unfold LCg.FinA
        intro Dy hhy tky Fy Ny oy
        (try simp only [LCg.Off1, and_true] at oy); (try simp only [List.nil_append, List.cons_append] at Ny); (try dsimp only)
        k_steps
        refine Stop.go ?_
        rename News _ _ _ _ => nZ
        obtain ⟨rest, nR, oR1, oR2, hR⟩ := news_two (ci := L' + 1 + 1 + 1 + 1 + 1) (cj := L' + 1 + 1 + 1 + 1 + 1 + 1) nZ (by k_mem) (by k_mem)
        have rN : ∀ p ∈ news, p ∈ rest := fun p hp => hR p (by k_mem) (Nat.ne_of_lt (lc5 p hp)) (Nat.ne_of_lt (lc6 p hp))
        have rW : (Dw, lst ysw) ∈ rest := hR _ (by k_mem) (by k_ne) (by k_ne)
        have rY : (Dy, lst ysy) ∈ rest := hR _ (by k_mem) (by k_ne) (by k_ne)
        obtain ⟨oT, rT, dT⟩ : ∃ o, (L' + 1 + 1, o) ∈ rest ∧ o.data = .cell (some (.ref lt)) := ⟨_, hR _ (by k_mem) (by k_ne) (by k_ne), by assumption⟩
        obtain ⟨oWc, rWc, dWc⟩ : ∃ o, (L' + 1 + 1 + 1 + 1, o) ∈ rest ∧ o.data = .cell (some (.ref Dw)) := ⟨_, hR _ (by k_mem) (by k_ne) (by k_ne), by assumption⟩
        have rl := rN _ hl
        have rb0 := rN _ hb0
        have rb1 := rN _ hb1
        have rb2 := rN _ hb2
        have hJy3 : IntsAre ysy [e0, e1, e2] := hJy
        clear hJy
        k_dflt (refine' for_rangeC (n := 3) (m := ?mZ) (news := (L' + 1 + 1 + 1 + 1 + 1 + 1, ?oj) :: rest) (fun i m₁ nw => ∃ oj v, nw = (L' + 1 + 1 + 1 + 1 + 1 + 1, oj) :: rest ∧ oj.data = .cell v ∧ ∀ z, z ≠ Str.ofString "alone" → m₁ z = ?mZ z) ?hhZ ?hrZ ?hsZ ?hnZ ?hkZ ?hxZ ?hcZ ?FZ ?NZ ?hoZ ?offZ ?hjZ ?hEZ ?turnZ ?doneZ)
        (case FZ => k_asm)
        (case hhZ => rfl)
        (case hrZ => assumption)
        (case hsZ => decide)
        (case hnZ => rfl)
        (case hkZ => rfl)
        (case hxZ => rfl)
        (case hcZ => rfl)
        (case hEZ => passes_own)
        (case NZ => exact nR)
        (case hoZ => assumption)
        (case offZ => exact List.forall_mem_cons.mpr ⟨by k_ne, oR1⟩)
        (case hjZ => exact ⟨_, _, rfl, by assumption, fun _ _ => rfl⟩)
        · intro i9 mA nwA IA oIA ocA tA hA tkA hi9 hJA docA FA NA oA1 oA2 oA3
          obtain ⟨ojA, vA, rfl, dojA, hmA⟩ := hJA
          have FA' := fr_alone hmA FA
          clear FA
          have docA1 : ocA.data = .cell (some (.int (i9 : Int) tA)) := by rw [docA, Int.zero_add]
          clear docA
          have rsA := rs_small hi9
          (try dsimp only); (try k_fold)
          k_steps
          refine Stop.go ?_
          rename News _ _ _ _ => nI
          k_dflt (refine' for_rangeC (n := i9) (m := ?mY1) (news := (IA, oIA) :: (L' + 1 + 1 + 1 + 1 + 1, ocA) :: rest) (fun j m₁ nw => nw = (IA, oIA) :: (L' + 1 + 1 + 1 + 1 + 1, ocA) :: rest ∧ ∀ z, z ≠ Str.ofString "alone" → m₁ z = ?mY1 z) ?hhY1 ?hrY1 ?hsY1 ?hnY1 ?hkY1 ?hxY1 ?hcY1 ?FY1 ?NY1 ?hoY1 ?offY1 ?hjY1 ?hEY1 ?turnY1 ?doneY1)
          (case FY1 => k_asm)
          (case hhY1 => rfl)
          (case hrY1 => assumption)
          (case hsY1 => exact rsA.1)
          (case hnY1 => exact rsA.2)
          (case hkY1 => rfl)
          (case hxY1 => rfl)
          (case hcY1 => rfl)
          (case hEY1 => passes_own)
          (case NY1 => exact news_pick nI (by walk_at "subs"))
          (case hoY1 => exact dojA)
          (case offY1 => exact List.forall_mem_cons.mpr ⟨fun e => oA1 (L' + 1 + 1 + 1 + 1 + 1 + 1, ojA) (.head _) e.symm, List.forall_mem_cons.mpr ⟨by k_ne, oR2⟩⟩)
          (case hjY1 => exact ⟨rfl, fun _ _ => rfl⟩)
          · intro j9 mB nwB IB oIB ocB tB hB tkB hj9 hJB docB FB NB oB1 oB2 oB3
            obtain ⟨rfl, hmB⟩ := hJB
            have FB' := fr_alone hmB FB
            clear FB rsA
            have docB0 : ocB.data = .cell (some (.int (j9 : Int) tB)) := by rw [docB, Int.zero_add]
            clear docB
            have hj3 : j9 < 3 := Nat.lt_trans hj9 hi9
            have hI4 : i9 < WS.length := by rw [hWSl]; omega
            have hJ4 : j9 < WS.length := by rw [hWSl]; omega
            have hW4 : WS.length ≤ 100 := by rw [hWSl]; omega
            have hI3 : i9 < [e0, e1, e2].length := hi9
            have hJ3 : j9 < [e0, e1, e2].length := hj3
            have hE3 : [e0, e1, e2].length ≤ 100 := by show 3 ≤ 100; omega
            refine pair_pick rb0 rb1 rb2 i0 i1 i2 z0 z1 z2 hP10' hP20' hP21' hS10 hS20 hS21 hi9 hj9 ?_
            intro aI vI kI xI aJ vJ kJ xJ eI mI iI zI eJ mJ iJ zJ hPP hSS
            k_with "exec Assign cons ListComp" => (k_dflt (refine' LCt.Assign_ListComp_T (F₀ := ?q0) ?q1 ?q2 ?q3 ?q4 ?q5 ?q6 ?q7 ?q8 ?q9 ?_ ?q11; (case q0 => k_asm); (case q1 => rfl); (case q2 => with_unfolding_all rfl); (case q3 => with_unfolding_all rfl); (case q4 => decide); (case q5 => rfl); (case q6 => decide); (case q7 => rfl); (case q8 => rfl); (case q9 => rfl); (case q11 => intro _; rfl)))
            (try dsimp only); (try k_fold)
            k_steps
            refine Stop.go ?_
            rename IntsAre _ (xI ++ xJ) => hS
            have hSl := IntsAre.length hS
            k_dflt (refine LCt.CompSrcT.ledger (by rfl) (by k_asm) (by k_asm) (by k_mem) (by rw [sizeLine_eq, List.size_toArray, hSl, List.length_append]; omega) ?_)
            intro g5
            refine compT_fix (fun i ys => IntsAre ys (((xI ++ xJ).take i).filter (loneF xI xJ))) .nil ?_ ?_
            · intro i5 ys5 hi5 hJ5 v5 I5 oI5 C5 oC5 D5 m5 h5 tk5 E5 hv5 hC5 hx5 F5 N5 off5 ne5
              obtain ⟨o5, t5, e5, rfl⟩ := ints_item hS hv5
              k_steps
              · rename List.any xI _ = true => q1
                rename List.any xJ _ = true => q2
                have hb : loneF xI xJ o5 = false := by unfold loneF; rw [q1, q2]; rfl
                rename News _ _ _ _ => nE
                refine comp_end (by assumption) nE (by walk_at "subs") off5 (.inr ⟨_, by k_mem, rfl, _, rfl⟩) ?_
                show IntsAre _ _
                rw [take_snoc e5, List.filter_append, List.filter_cons]
                rw [if_neg (by rw [hb]; exact Bool.false_ne_true), List.filter_nil, List.append_nil]
                exact hJ5
              · rename List.any xI _ = true => q1
                rename List.any xJ _ = false => q2
                have hb : loneF xI xJ o5 = true := by unfold loneF; rw [q1, q2]; rfl
                rename News _ _ _ _ => nE
                refine comp_end (by assumption) nE (by walk_at "subs") off5 (.inr ⟨_, by k_mem, rfl, _, rfl⟩) ?_
                show IntsAre _ _
                rw [take_snoc e5, List.filter_append, List.filter_cons]
                rw [if_pos hb]
                exact hJ5.append (.cons _ _ .nil)
              · rename List.any xI _ = false => q1
                have hb : loneF xI xJ o5 = true := by unfold loneF; rw [q1]; rfl
                rename News _ _ _ _ => nE
                refine comp_end (by assumption) nE (by walk_at "subs") off5 (.inr ⟨_, by k_mem, rfl, _, rfl⟩) ?_
                show IntsAre _ _
                rw [take_snoc e5, List.filter_append, List.filter_cons]
                rw [if_pos hb]
                exact hJ5.append (.cons _ _ .nil)
            · intro ys5 hJ5
              rw [List.size_toArray, hSl, List.take_length] at hJ5
              have hz5 : ((xI ++ xJ).filter (loneF xI xJ)).length ≤ 100 := by
                refine Nat.le_trans (List.length_filter_le _ _) ?_
                rw [List.length_append]
                omega
              k_with "call ref" => (k_dflt (refine' Spec.use (c_lev w mean mg mb _ _ _ _ _ (looseF ch).length ?kx ?ky hlo) ?k1 ?k2 ?k3 ?k4 ?k5 ?k6 ?k7 ?k8 ?k9 ?_); (case kx => exact hWlen _ (by omega)); (case ky => exact hWlen _ (by omega)); (case k1 => k_asm); (case k2 => k_asm); (case k3 => k_asm); (case k4 => k_asm); (case k5 => k_asm); (case k6 => exact rfl); (case k7 => exact trivial); (case k8 => ktr_room); (case k9 => ktr_units); intro r9 tl9 h9 tk9 F9 N9 g9 p9; obtain ⟨rfl, w9, t9, rfl, hw9⟩ := p9; clear g9; simp only [List.nil_append] at N9; (have hw8 := hPP _ hw9); clear hw9; (try dsimp only); (try k_fold))
              k_steps
              · exact absurd hw8 (by assumption)
              · exact absurd hSS (by assumption)
              · rename News _ _ _ _ => nE
                exact ⟨_, _, _, (IA, oIA) :: (L' + 1 + 1 + 1 + 1 + 1, ocA) :: rest, ocB, _, rfl, by assumption, news_pick nE (by walk_at "subs"), docB0, oB1, oB2, rfl, by intro z hz; simp [hz]⟩
          · intro mC nwC ocC vC hC tkC hJC docC FC NC oC1
            obtain ⟨rfl, hmC⟩ := hJC
            have FC' := fr_alone hmC FC
            (try dsimp only); (try k_fold)
            k_steps
            exact ⟨_, _, _, (L' + 1 + 1 + 1 + 1 + 1 + 1, ocC) :: rest, ocA, _, rfl, FC', news_pick NC (by walk_at "subs"), docA1, List.forall_mem_cons.mpr ⟨oA1 (L' + 1 + 1 + 1 + 1 + 1 + 1, ojA) (.head _), fun p hp => oA1 p (.tail _ hp)⟩, List.forall_mem_cons.mpr ⟨oA2 (L' + 1 + 1 + 1 + 1 + 1 + 1, ojA) (.head _), oR1⟩, ocC, vC, rfl, docC, by intro z hz; simp [hz]⟩
        · intro mC nwC ocC vC hC tkC hJC docC FC NC oC1
          obtain ⟨ojC, vC2, rfl, dojC, hmC⟩ := hJC
          have FC' := fr_alone hmC FC
          (try dsimp only); (try k_fold)
          k_steps
          rename News h₀ _ _ _ => nE
          exact end0 hret (by assumption) nE (fun p hp => List.mem_cons_of_mem _ (List.mem_cons_of_mem _ (rN p hp))) ⟨rfl, rfl⟩
end

end
section
open PySem PySem.W PySem.Spec PySem.Calls PyProof.Rows
theorem nm_fin : ∀ s : Fin 9, ∀ m : Fin 15, nmF (s.val : Int) ((m.val : Int) + 1) = some (nmN (s.val : Int) ((m.val : Int) + 1)) := by decide +kernel
theorem nm_inj_fin : ∀ s : Fin 9, ∀ m k : Fin 15, nmN (s.val : Int) ((m.val : Int) + 1) = nmN (s.val : Int) ((k.val : Int) + 1) → m = k := by decide +kernel

end
section
open PySem PySem.W PySem.Spec PySem.Calls PyProof.Rows
/-- the masks of a tape, as they are closed: a run of told over its classes -/
noncomputable def told1 (sh : Int) : List Int → List Int → List (Str × Int) → Option (List Int × List (Str × Int)) := fun xs p c => toldRun sh xs (p, c)
/-- the pile alone, with the masks that are closed -/
noncomputable def pileStep (st : List Int × List Int) (x : Int) : Option (List Int × List Int) :=
  if x = 0 then match st.1.reverse with
    | m :: q :: r => some (r.reverse ++ [q + m], st.2 ++ [m])
    | _ => none
  else if x < 256 then match st.1.reverse with
    | q :: r => some (r.reverse ++ [q + 2 ^ ((255 - x).fmod 4).toNat], st.2)
    | _ => none
  else some (st.1 ++ [0], st.2)
noncomputable def pileRun : List Int → List Int × List Int → Option (List Int × List Int)
  | [], st => some st
  | x :: xs, st => (pileStep st x).bind (pileRun xs)
theorem pileRun_append : ∀ (a b : List Int) (st : List Int × List Int), pileRun (a ++ b) st = (pileRun a st).bind (pileRun b)
  | [], _, _ => rfl
  | x :: a, b, st => by
    show (pileStep st x).bind (pileRun (a ++ b)) = ((pileStep st x).bind (pileRun a)).bind (pileRun b)
    cases pileStep st x with
    | none => rfl
    | some st' => exact pileRun_append a b st'
/-- what told files: the masks under their names -/
noncomputable def fileF (sh : Int) (ms : List Int) : List (Str × Int) := ms.foldl (fun c x => kdpPut c (nmN sh x) x) []
theorem file_snoc (sh : Int) (ms : List Int) (m : Int) : fileF sh (ms ++ [m]) = kdpPut (fileF sh ms) (nmN sh m) m := by unfold fileF; rw [List.foldl_append]; rfl
theorem file_named (sh : Int) (ms : List Int) : fileF sh ms = namedF sh ms := rfl
theorem nm_all {sh m : Int} (h0 : 0 ≤ sh) (h1 : sh < 9) (m0 : 0 < m) (m1 : m < 16) : nmF sh m = some (nmN sh m) := by
  have := nm_fin ⟨sh.toNat, by omega⟩ ⟨(m - 1).toNat, by omega⟩
  have e1 : ((sh.toNat : Nat) : Int) = sh := Int.toNat_of_nonneg h0
  have e2 : (((m - 1).toNat : Nat) : Int) + 1 = m := by omega
  simp only [e1, e2] at this
  exact this
theorem nm_inj {sh m k : Int} (h0 : 0 ≤ sh) (h1 : sh < 9) (m0 : 0 < m) (m1 : m < 16) (k0 : 0 < k) (k1 : k < 16) (h : nmN sh m = nmN sh k) : m = k := by
  have := nm_inj_fin ⟨sh.toNat, by omega⟩ ⟨(m - 1).toNat, by omega⟩ ⟨(k - 1).toNat, by omega⟩
  have e1 : ((sh.toNat : Nat) : Int) = sh := Int.toNat_of_nonneg h0
  have e2 : (((m - 1).toNat : Nat) : Int) + 1 = m := by omega
  have e3 : (((k - 1).toNat : Nat) : Int) + 1 = k := by omega
  simp only [e1, e2, e3] at this
  have q := Fin.mk.inj (this h)
  omega
/-- told's run, from the pile's run, where only masks of 1 to 15 are closed -/
theorem told_of_pile {sh : Int} (h0 : 0 ≤ sh) (h1 : sh < 9) : ∀ {xs : List Int} {p ms p' ms' : List Int}, pileRun xs (p, ms) = some (p', ms') → (∀ m ∈ ms', 0 < m ∧ m < 16) → toldRun sh xs (p, fileF sh ms) = some (p', fileF sh ms')
  | [], p, ms, p', ms', h, hm => by cases h; rfl
  | x :: xs, p, ms, p', ms', h, hm => by
    have h' : (pileStep (p, ms) x).bind (pileRun xs) = some (p', ms') := h
    cases hs : pileStep (p, ms) x with
    | none => rw [hs] at h'; cases h'
    | some st =>
      obtain ⟨p1, m1⟩ := st
      rw [hs] at h'
      have h2 : pileRun xs (p1, m1) = some (p', ms') := h'
      have ih := told_of_pile h0 h1 h2 hm
      have grow : ∀ m ∈ m1, m ∈ ms' := by
        clear ih h' hs h hm
        have key : ∀ (xs : List Int) (p m p' m' : List Int), pileRun xs (p, m) = some (p', m') → ∀ a ∈ m, a ∈ m' := by
          intro xs
          induction xs with
          | nil => intro p m p' m' h a ha; cases h; exact ha
          | cons x xs ih =>
            intro p m p' m' h a ha
            have h' : (pileStep (p, m) x).bind (pileRun xs) = some (p', m') := h
            cases hs : pileStep (p, m) x with
            | none => rw [hs] at h'; cases h'
            | some st =>
              obtain ⟨p1, m1⟩ := st
              rw [hs] at h'
              refine ih p1 m1 p' m' h' a ?_
              unfold pileStep at hs
              split at hs
              · split at hs
                · cases hs; exact List.mem_append_left _ ha
                · cases hs
              · split at hs
                · split at hs
                  · cases hs; exact ha
                  · cases hs
                · cases hs; exact ha
        exact key xs p1 m1 p' ms' h2
      have step : toldStep sh (p, fileF sh ms) x = some (p1, fileF sh m1) := by
        unfold pileStep at hs
        unfold toldStep
        split at hs
        · rename_i hx
          rw [if_pos hx]
          dsimp only at hs ⊢
          split at hs
          · rename_i m q r e
            cases hs
            have hm1 := hm m (grow m (List.mem_append_right _ (.head _)))
            (try rw [e])
            show Option.map _ (nmF sh m) = _
            rw [nm_all h0 h1 hm1.1 hm1.2, file_snoc]
            rfl
          · cases hs
        · rename_i hx
          rw [if_neg hx]
          split at hs
          · rename_i hx2
            rw [if_pos hx2]
            dsimp only at hs ⊢
            split at hs
            · rename_i q r e
              cases hs
              first
                | rfl
                | (rw [e]; done)
            · cases hs
          · rename_i hx2
            rw [if_neg hx2]
            cases hs; rfl
      show (toldStep sh (p, fileF sh ms) x).bind (toldRun sh xs) = _
      rw [step]
      exact ih

end
section
open PySem PySem.W PySem.Spec PySem.Calls PyProof.Rows
inductive TK where
  | push
  | leaf (p : Nat)
  | pop
noncomputable def TKis : Int → TK → Prop
  | x, .push => 256 ≤ x ∧ x < 262144
  | x, .leaf p => 0 < x ∧ x < 256 ∧ ((255 - x).fmod 4).toNat = p
  | x, .pop => x = 0
noncomputable def tkStep (st : List Int × List Int) : TK → Option (List Int × List Int)
  | .pop => match st.1.reverse with
    | m :: q :: r => some (r.reverse ++ [q + m], st.2 ++ [m])
    | _ => none
  | .leaf p => match st.1.reverse with
    | q :: r => some (r.reverse ++ [q + 2 ^ p], st.2)
    | _ => none
  | .push => some (st.1 ++ [0], st.2)
noncomputable def tkRun : List TK → List Int × List Int → Option (List Int × List Int)
  | [], st => some st
  | x :: xs, st => (tkStep st x).bind (tkRun xs)
theorem tk_step {x : Int} {t : TK} (h : TKis x t) (st : List Int × List Int) : pileStep st x = tkStep st t := by
  cases t with
  | push =>
    obtain ⟨h1, h2⟩ := h
    unfold pileStep
    rw [if_neg (by omega), if_neg (by omega)]
    rfl
  | leaf p =>
    obtain ⟨h1, h2, h3⟩ := h
    unfold pileStep
    rw [if_neg (by omega), if_pos h2, h3]
    rfl
  | pop =>
    have h0 : x = 0 := h
    unfold pileStep
    rw [if_pos h0]
    rfl
inductive TKs : List Int → List TK → Prop
  | nil : TKs [] []
  | cons {x t xs ts} : TKis x t → TKs xs ts → TKs (x :: xs) (t :: ts)
theorem TKs.append : ∀ {xs ys : List Int} {ts us : List TK}, TKs xs ts → TKs ys us → TKs (xs ++ ys) (ts ++ us)
  | _, _, _, _, .nil, h => h
  | _, _, _, _, .cons a r, h => .cons a (r.append h)
theorem tk_run : ∀ {xs : List Int} {ts : List TK}, TKs xs ts → ∀ st, pileRun xs st = tkRun ts st
  | _, _, .nil, _ => rfl
  | x :: xs, t :: ts, .cons a r, st => by
    show (pileStep st x).bind (pileRun xs) = (tkStep st t).bind (tkRun ts)
    rw [tk_step a]
    cases tkStep st t with
    | none => rfl
    | some st' => exact tk_run r st'
theorem tk_range : ∀ {xs : List Int} {ts : List TK}, TKs xs ts → ∀ x ∈ xs, 0 ≤ x ∧ x < 262144
  | _, _, .nil, x, h => nomatch h
  | y :: xs, t :: ts, .cons a r, x, h => by
    rcases List.mem_cons.mp h with rfl | h
    · cases t with
      | push => obtain ⟨h1, h2⟩ := a; omega
      | leaf p => obtain ⟨h1, h2, _⟩ := a; omega
      | pop => have : x = 0 := a; omega
    · exact tk_range r x h
noncomputable def tokStep (R : Int → List TK) (mk : Int) (st : List TK × Int) (o : Int) : List TK × Int :=
  if o < mk ∧ Builtin.bitAnd o st.2 = o then (st.1 ++ R o, st.2 - o) else st
noncomputable def tokLeaves (left : Int) (pre : List Int) : List TK := (pre.filter fun p => decide ((left.fdiv (2 ^ p.toNat)).fmod 2 = 1)).map fun p => .leaf p.toNat
noncomputable def toksF (ts : List Int) : Nat → Int → List TK
  | 0, _ => []
  | f + 1, mk =>
    let st := ts.foldl (tokStep (toksF ts f) mk) ([.push], mk)
    st.1 ++ tokLeaves st.2 [0, 1, 2, 3] ++ [.pop]
theorem leaf_is {p d : Int} (h0 : 0 ≤ p) (h1 : p < 4) : TKis (255 - p - 4 * (d.fdiv 7).fmod 60) (.leaf p.toNat) := by
  have a := Int.fmod_nonneg_of_pos (d.fdiv 7) (show (0 : Int) < 60 by decide)
  have b := Int.fmod_lt_of_pos (d.fdiv 7) (show (0 : Int) < 60 by decide)
  generalize (d.fdiv 7).fmod 60 = k at a b
  refine ⟨by omega, by omega, ?_⟩
  have e : (255 - (255 - p - 4 * k)).fmod 4 = (255 - (255 - p - 4 * k)) % 4 := Int.fmod_eq_emod_of_nonneg _ (by decide)
  rw [e]
  omega
theorem leaves_are (left d : Int) : ∀ (pre : List Int), (∀ p ∈ pre, 0 ≤ p ∧ p < 4) → TKs (leavesF left d pre) (tokLeaves left pre)
  | [], _ => .nil
  | p :: pre, h => by
    have ih := leaves_are left d pre fun q hq => h q (.tail _ hq)
    have hp := h p (.head _)
    unfold leavesF tokLeaves at *
    by_cases c : decide ((left.fdiv (2 ^ p.toNat)).fmod 2 = 1) = true
    · rw [List.filter_cons, if_pos c, List.map_cons, List.map_cons]
      exact .cons (leaf_is hp.1 hp.2) ih
    · rw [List.filter_cons, if_neg c]
      exact ih
theorem fold_are {mk : Int} {R : Int → List Int} {RT : Int → List TK} (hR : ∀ o, TKs (R o) (RT o)) : ∀ (ts : List Int) (st : List Int × Int) (su : List TK × Int), TKs st.1 su.1 → st.2 = su.2 →
    TKs (ts.foldl (numStep R mk) st).1 (ts.foldl (tokStep RT mk) su).1 ∧ (ts.foldl (numStep R mk) st).2 = (ts.foldl (tokStep RT mk) su).2
  | [], _, _, h, e => ⟨h, e⟩
  | o :: ts, st, su, h, e => by
    rw [List.foldl_cons, List.foldl_cons]
    refine fold_are hR ts _ _ ?_ ?_
    · unfold numStep tokStep
      rw [e]
      by_cases c : o < mk ∧ Builtin.bitAnd o su.2 = o
      · rw [if_pos c, if_pos c]; exact h.append (hR o)
      · rw [if_neg c, if_neg c]; exact h
    · unfold numStep tokStep
      rw [e]
      by_cases c : o < mk ∧ Builtin.bitAnd o su.2 = o
      · rw [if_pos c, if_pos c]
      · rw [if_neg c, if_neg c]; exact e
theorem nums_are (ts : List Int) : ∀ (f : Nat) (mk d : Int), TKs (numsF ts f mk d) (toksF ts f mk)
  | 0, _, _ => .nil
  | f + 1, mk, d => by
    have a := Int.fmod_nonneg_of_pos d (show (0 : Int) < 5000 by decide)
    have b := Int.fmod_lt_of_pos d (show (0 : Int) < 5000 by decide)
    have h := fold_are (mk := mk) (R := fun o => numsF ts f o (d + o)) (RT := toksF ts f) (fun o => nums_are ts f o (d + o)) ts ([256 + d.fmod 5000], mk) ([.push], mk) (.cons ⟨by omega, by omega⟩ .nil) rfl
    unfold numsF toksF
    dsimp only
    rw [← h.2]
    refine (h.1.append (leaves_are _ _ _ ?_)).append (.cons rfl .nil)
    intro p hp
    simp at hp
    omega
/-- the trees over the four leaves, as sets of masks -/
noncomputable def descB (b : Nat) : List Int := [15, 14, 13, 12, 11, 10, 9, 8, 7, 6, 5, 4, 3, 2, 1].filter fun m => b.testBit m.toNat
noncomputable def bitsOf (t : List Int) : Nat := t.foldl (fun b m => b ||| 2 ^ m.toNat) 0
noncomputable def popsB (b : Nat) : List Int := ((tkRun (toksF (descB b) 16 15) ([0], [])).getD ([], [])).2
noncomputable def goodL : List Nat := [32768, 32776, 32800, 32832, 32896, 32904, 32928, 32960, 33280, 33344, 33792, 33824, 34816, 34824, 35328, 35840, 36864, 36872, 40960, 40992, 41472, 45056, 49152, 49216, 50176, 53248]

end
section
open PySem PySem.W PySem.Spec PySem.Calls PyProof.Rows
theorem good_run : ∀ b ∈ goodL, tkRun (toksF (descB b) 16 15) ([0], []) = some ([15], popsB b) ∧ (popsB b).length = (descB b).length ∧ (∀ m ∈ popsB b, m ∈ descB b) ∧ (popsB b).Nodup ∧ (∀ m ∈ descB b, m ∈ popsB b) := by decide +kernel
theorem good_tree : ∀ f g : Fin 11, bitsOf ([(f.val : Int), (g.val : Int)].foldl treeStep [15]) ∈ goodL ∧ ([(f.val : Int), (g.val : Int)].foldl treeStep [15]).Nodup ∧ (∀ m ∈ [(f.val : Int), (g.val : Int)].foldl treeStep [15], 0 < m ∧ m < 16) ∧ ([(f.val : Int), (g.val : Int)].foldl treeStep [15]).length ≤ 3 := by decide +kernel
noncomputable def majB (a b c : Nat) : Nat := (a &&& b) ||| ((a &&& c) ||| (b &&& c))
theorem good_maj : goodL.all (fun a => goodL.all fun b => goodL.all fun c => goodL.contains (majB a b c)) = true := by decide +kernel
theorem good_15 : ∀ b ∈ goodL, b.testBit 15 = true ∧ (descB b).length ≤ 3 := by decide +kernel

end
section
open PySem PySem.W PySem.Spec PySem.Calls PyProof.Rows
theorem has_iff {c : List (Str × Int)} {y : Str} : kdpHas c y = true ↔ y ∈ keysF c := by
  unfold kdpHas keysF
  rw [List.any_eq_true]
  constructor
  · rintro ⟨p, hp, e⟩
    exact List.mem_map.mpr ⟨p, hp, of_decide_eq_true e⟩
  · intro h
    obtain ⟨p, hp, rfl⟩ := List.mem_map.mp h
    exact ⟨p, hp, by simp⟩
theorem keys_put {c : List (Str × Int)} {y : Str} {v : Int} : keysF (kdpPut c y v) = if kdpHas c y = true then keysF c else keysF c ++ [y] := by
  unfold kdpPut
  by_cases h : (c.any fun p => decide (p.1 = y)) = true
  · rw [if_pos h, if_pos (show kdpHas c y = true from h)]
    unfold keysF
    rw [List.map_map]
    refine List.map_congr_left fun p _ => ?_
    show (if decide (p.1 = y) = true then (p.1, v) else p).1 = p.1
    by_cases e : p.1 = y
    · rw [if_pos (decide_eq_true e)]
    · rw [if_neg (by simp [e])]
  · rw [if_neg h, if_neg (show ¬ kdpHas c y = true from h)]
    unfold keysF
    rw [List.map_append]
    rfl
theorem look_put {c : List (Str × Int)} {y z : Str} {v d : Int} : kdpLook (kdpPut c y v) z d = if z = y then v else kdpLook c z d := by
  unfold kdpLook kdpPut
  by_cases h : (c.any fun p => decide (p.1 = y)) = true
  · rw [if_pos h]
    induction c with
    | nil => simp at h
    | cons p c ih =>
      rw [List.map_cons, List.find?_cons, List.find?_cons]
      by_cases e : p.1 = y
      · by_cases ez : z = y
        · subst ez
          simp [e]
        · have : ¬ y = z := fun q => ez q.symm
          simp only [decide_eq_true e, if_true]
          have e1 : decide (p.1 = z) = false := by rw [e]; exact decide_eq_false this
          rw [e1]
          dsimp only
          rw [if_neg ez]
          by_cases h2 : (c.any fun p => decide (p.1 = y)) = true
          · rw [ih h2, if_neg ez]
          · have e3 : (c.map fun p => if decide (p.1 = y) = true then (p.1, v) else p) = c := by
              conv => rhs; rw [← List.map_id c]
              refine List.map_congr_left fun q hq => ?_
              have : ¬ q.1 = y := fun e => h2 (List.any_eq_true.mpr ⟨q, hq, decide_eq_true e⟩)
              simp [this]
            rw [e3]
      · have h2 : (c.any fun p => decide (p.1 = y)) = true := by simpa [e] using h
        have e0 : decide (p.1 = y) = false := decide_eq_false e
        simp only [e0, Bool.false_eq_true, if_false]
        by_cases ez : p.1 = z
        · have : ¬ z = y := fun q => e (ez.trans q)
          simp [ez, this]
        · have e1 : decide (p.1 = z) = false := decide_eq_false ez
          rw [e1]
          exact ih h2
  · rw [if_neg h, List.find?_append]
    by_cases ez : z = y
    · subst ez
      have e : c.find? (fun p => decide (p.1 = z)) = none := by
        rw [List.find?_eq_none]
        intro p hp he
        exact h (List.any_eq_true.mpr ⟨p, hp, he⟩)
      rw [e]
      simp
    · have : ¬ y = z := fun q => ez q.symm
      simp [this, ez]
theorem held_look : ∀ (ys : List Str) (c : List (Str × Int)) (y : Str), kdpLook (ys.foldl heldStep c) y 0 = kdpLook c y 0 + (ys.countP fun z => decide (z = y))
  | [], c, y => by simp
  | z :: ys, c, y => by
    rw [List.foldl_cons, held_look ys, List.countP_cons]
    unfold heldStep
    rw [look_put]
    by_cases e : y = z
    · subst e
      simp
      omega
    · have : ¬ z = y := fun q => e q.symm
      simp [e, this]
theorem held_keys : ∀ (ys : List Str) (c : List (Str × Int)), (keysF c).Nodup → (keysF (ys.foldl heldStep c)).Nodup ∧ ∀ y, y ∈ keysF (ys.foldl heldStep c) ↔ y ∈ keysF c ∨ y ∈ ys
  | [], c, h => ⟨h, fun y => by simp⟩
  | z :: ys, c, h => by
    rw [List.foldl_cons]
    have hn : (keysF (heldStep c z)).Nodup := by
      unfold heldStep
      rw [keys_put]
      split
      · exact h
      · rename_i hz
        refine List.nodup_append.mpr ⟨h, by simp, ?_⟩
        intro a ha b hb e
        rw [List.mem_singleton.mp hb] at e
        subst e
        exact hz (has_iff.mpr ha)
    obtain ⟨a, b⟩ := held_keys ys (heldStep c z) hn
    refine ⟨a, fun y => ?_⟩
    rw [b]
    unfold heldStep
    rw [keys_put]
    split
    · rename_i hz
      have := has_iff.mp hz
      constructor
      · rintro (q | q)
        · exact .inl q
        · exact .inr (.tail _ q)
      · rintro (q | q)
        · exact .inl q
        · rcases List.mem_cons.mp q with rfl | q
          · exact .inl this
          · exact .inr q
    · simp only [List.mem_append, List.mem_cons, List.not_mem_nil, or_false]
      constructor
      · rintro ((q | q) | q)
        · exact .inl q
        · exact .inr (.inl q)
        · exact .inr (.inr q)
      · rintro (q | q | q)
        · exact .inl (.inl q)
        · exact .inl (.inr q)
        · exact .inr q
/-- masks filed under their names -/
theorem file_map {sh : Int} (h0 : 0 ≤ sh) (h1 : sh < 9) (ms : List Int) (hn : ms.Nodup) (hm : ∀ m ∈ ms, 0 < m ∧ m < 16) : namedF sh ms = ms.map fun m => (nmN sh m, m) := by
  have key : ∀ (ms acc : List Int), (acc ++ ms).Nodup → (∀ m ∈ acc ++ ms, 0 < m ∧ m < 16) → ms.foldl (fun c x => kdpPut c (nmN sh x) x) (acc.map fun m => (nmN sh m, m)) = (acc ++ ms).map fun m => (nmN sh m, m) := by
    intro ms
    induction ms with
    | nil => intro acc _ _; simp
    | cons m ms ih =>
      intro acc hn hm
      have hp : kdpPut (acc.map fun m => (nmN sh m, m)) (nmN sh m) m = (acc ++ [m]).map fun m => (nmN sh m, m) := by
        unfold kdpPut
        rw [if_neg, List.map_append]
        · rfl
        · intro h
          obtain ⟨p, hp, e⟩ := List.any_eq_true.mp h
          obtain ⟨k, hk, rfl⟩ := List.mem_map.mp hp
          have hk1 := hm k (List.mem_append_left _ hk)
          have hm1 := hm m (List.mem_append_right _ (.head _))
          have := nm_inj h0 h1 hk1.1 hk1.2 hm1.1 hm1.2 (of_decide_eq_true e)
          have := (List.nodup_append.mp hn).2.2 k hk m (.head _)
          exact this ‹_›
      rw [List.foldl_cons, hp]
      have e : acc ++ m :: ms = (acc ++ [m]) ++ ms := by simp
      rw [e] at hn hm ⊢
      exact ih (acc ++ [m]) hn hm
  have := key ms [] (by simpa using hn) (by simpa using hm)
  simpa [namedF] using this

end
section
open PySem PySem.W PySem.Spec PySem.Calls PyProof PyProof.Rows
noncomputable def letF (u : Bool) (i : Nat) : Nat := (if u = true then 65 else 97) + i
theorem sub_fin : ∀ u v : Bool, ∀ i j : Fin 6, subN (letF u i.val) (letF v j.val) = if i.val = j.val then (if u = v then 0 else 1) else 2 := by decide +kernel
theorem sub_let {u v : Bool} {i j : Nat} (hi : i < 6) (hj : j < 6) : subN (letF u i) (letF v j) = if i = j then (if u = v then 0 else 1) else 2 := sub_fin u v ⟨i, hi⟩ ⟨j, hj⟩
noncomputable def costB (b i j : Nat) : Int := if i = j then (if b.testBit i = true then 1 else 0) else 2
noncomputable def onesB (b m : Nat) : Nat := (List.range m).countP fun i => b.testBit i
theorem tab_fin : ∀ m : Fin 7, ∀ b : Fin 64, onesB b.val m.val ≤ 4 → (tabF' m.val (costB b.val) m.val).map (·.2) = some (onesB b.val m.val : Int) := by decide +kernel
theorem cell_congr {c c' : Nat → Int} : ∀ (l : List Nat) (st : RowSt), (∀ j ∈ l, c j = c' j) → l.foldl (cellStep c) st = l.foldl (cellStep c') st
  | [], _, _ => rfl
  | j :: l, st, h => by
    rw [List.foldl_cons, List.foldl_cons]
    have e : cellStep c st j = cellStep c' st j := by unfold cellStep; rw [h j (.head _)]
    rw [e]
    exact cell_congr l _ fun k hk => h k (.tail _ hk)
theorem tab_congr {m : Nat} {c c' : Nat → Nat → Int} (h : ∀ i j, i < m → j < m → c i j = c' i j) : ∀ i, i ≤ m → tabF' m c i = tabF' m c' i
  | 0, _ => rfl
  | i + 1, hi => by
    show (tabF' m c i).bind _ = (tabF' m c' i).bind _
    rw [tab_congr h i (by omega)]
    congr 1
    funext p
    have e : rowF m (c i) i p.1 = rowF m (c' i) i p.1 := by
      unfold rowF
      exact cell_congr _ _ fun j hj => h i j (by omega) (List.mem_range.mp hj)
    rw [e]
/-- the places, of the first m, whose bit is told by f -/
noncomputable def packF (f : Nat → Bool) : Nat → Nat
  | 0 => 0
  | m + 1 => packF f m + (if f m = true then 2 ^ m else 0)
theorem pack_lt (f : Nat → Bool) : ∀ m, packF f m < 2 ^ m
  | 0 => by simp [packF]
  | m + 1 => by
    have := pack_lt f m
    unfold packF
    rw [Nat.pow_succ]
    split <;> omega
theorem pack_bit (f : Nat → Bool) : ∀ m i, i < m → (packF f m).testBit i = f i
  | m + 1, i, hi => by
    have hl := pack_lt f m
    unfold packF
    by_cases c : f m = true
    · rw [if_pos c, Nat.add_comm]
      rcases Nat.lt_or_ge i m with h | h
      · rw [Nat.testBit_two_pow_add_gt h, pack_bit f m i h]
      · obtain rfl : i = m := by omega
        rw [Nat.testBit_two_pow_add_eq, Nat.testBit_lt_two_pow hl, c]
        rfl
    · rw [if_neg c, Nat.add_zero]
      rcases Nat.lt_or_ge i m with h | h
      · exact pack_bit f m i h
      · obtain rfl : i = m := by omega
        rw [Nat.testBit_lt_two_pow hl]
        simpa using c
theorem tab_ham {m : Nat} {e : Nat → Bool} {c : Nat → Nat → Int} (hm : m ≤ 6) (hc : ∀ i j, i < m → j < m → c i j = if i = j then (if e i = true then 1 else 0) else 2) (h4 : (List.range m).countP e ≤ 4) : ∃ row, tabF' m c m = some (row, ((List.range m).countP e : Int)) := by
  have hb : packF e m < 64 := Nat.lt_of_lt_of_le (pack_lt e m) (Nat.pow_le_pow_right (by decide) hm)
  have e1 : tabF' m c m = tabF' m (costB (packF e m)) m := tab_congr (fun i j hi hj => by rw [hc i j hi hj]; unfold costB; rw [pack_bit e m i hi]) m (Nat.le_refl _)
  have e2 : onesB (packF e m) m = (List.range m).countP e := by
    unfold onesB
    refine List.countP_congr fun i hi => ?_
    rw [pack_bit e m i (List.mem_range.mp hi)]
  have := tab_fin ⟨m, by omega⟩ ⟨packF e m, hb⟩ (by rw [e2]; exact h4)
  dsimp only at this
  rw [e1]
  cases q : tabF' m (costB (packF e m)) m with
  | none => rw [q] at this; cases this
  | some p =>
    rw [q, e2] at this
    obtain ⟨row, res⟩ := p
    exact ⟨row, by rw [show res = ((List.range m).countP e : Int) from Option.some.inj this]⟩

end
section
open PySem PySem.W PySem.Spec PySem.Calls PyProof PyProof.Rows
theorem let_inj {u v : Bool} {i : Nat} (h : letF u i = letF v i) : u = v := by
  unfold letF at h
  cases u <;> cases v <;> simp at h ⊢
theorem map_getD {n i : Nat} {F : Nat → Nat} (h : i < n) : ((List.range n).map F).getD i 0 = F i := by
  simp [List.getD_eq_getElem?_getD, h]
theorem count_zero {l : List Nat} {e : Nat → Bool} (h : ∀ i ∈ l, e i = false) : l.countP e = 0 := by
  rw [List.countP_eq_zero]
  intro i hi
  rw [h i hi]
  exact Bool.false_ne_true
theorem count_mid {n k m : Nat} {e : Nat → Bool} (hk : k + m ≤ n) (h1 : ∀ i, i < k → e i = false) (h2 : ∀ i, k + m ≤ i → i < n → e i = false) : (List.range n).countP e = (List.range m).countP fun i => e (k + i) := by
  obtain ⟨r, rfl⟩ : ∃ r, n = k + (m + r) := ⟨n - k - m, by omega⟩
  rw [List.range_add, List.countP_append, List.countP_map, List.range_add, List.countP_append, List.countP_map]
  rw [count_zero fun i hi => h1 i (List.mem_range.mp hi)]
  have e3 : (List.range r).countP ((e ∘ fun x => k + x) ∘ fun x => m + x) = 0 := count_zero fun i hi => by
    have := List.mem_range.mp hi
    exact h2 (k + (m + i)) (by omega) (by omega)
  rw [e3, Nat.zero_add, Nat.add_zero]
  rfl
theorem lev_ham {n : Nat} {x y : Str} {f g : Nat → Bool} {v : Int} (hn : n ≤ 6) (hx : x.cps.toList = (List.range n).map fun i => letF (f i) i) (hy : y.cps.toList = (List.range n).map fun i => letF (g i) i)
    (h : (x = y → v = 0) ∧ (x ≠ y → ∃ k m, 0 < m ∧ k + m ≤ n ∧ x.cps.toList.take k = y.cps.toList.take k ∧ x.cps.toList.drop (k + m) = y.cps.toList.drop (k + m) ∧ ∀ row res, tabF' m (fun i j => subN (y.cps.toList.getD (k + i) 0) (x.cps.toList.getD (k + j) 0)) m = some (row, res) → v = res))
    (h4 : (List.range n).countP (fun i => f i != g i) ≤ 4) : v = ((List.range n).countP (fun i => f i != g i) : Int) := by
  by_cases hxy : x = y
  · rw [h.1 hxy]
    have e : (List.range n).countP (fun i => f i != g i) = 0 := count_zero fun i hi => by
      have hi := List.mem_range.mp hi
      have e1 : ((List.range n).map fun i => letF (f i) i).getD i 0 = ((List.range n).map fun i => letF (g i) i).getD i 0 := by rw [← hx, ← hy, hxy]
      rw [map_getD hi, map_getD hi] at e1
      simp [let_inj e1]
    rw [e]
    rfl
  · obtain ⟨k, m, hm, hkm, ht, hd, hr⟩ := h.2 hxy
    have h1 : ∀ i, i < k → (f i != g i) = false := by
      intro i hi
      have e1 : (x.cps.toList.take k).getD i 0 = (y.cps.toList.take k).getD i 0 := by rw [ht]
      simp only [List.getD_eq_getElem?_getD, List.getElem?_take, hi, if_true] at e1
      rw [← List.getD_eq_getElem?_getD, ← List.getD_eq_getElem?_getD, hx, hy, map_getD (by omega), map_getD (by omega)] at e1
      simp [let_inj e1]
    have h2 : ∀ i, k + m ≤ i → i < n → (f i != g i) = false := by
      intro i hi hin
      have e1 : (x.cps.toList.drop (k + m)).getD (i - (k + m)) 0 = (y.cps.toList.drop (k + m)).getD (i - (k + m)) 0 := by rw [hd]
      simp only [List.getD_eq_getElem?_getD, List.getElem?_drop] at e1
      rw [show k + m + (i - (k + m)) = i by omega, ← List.getD_eq_getElem?_getD, ← List.getD_eq_getElem?_getD, hx, hy, map_getD hin, map_getD hin] at e1
      simp [let_inj e1]
    have e2 := count_mid (e := fun i => f i != g i) hkm h1 h2
    rw [e2] at h4 ⊢
    obtain ⟨row, q⟩ := tab_ham (e := fun i => f (k + i) != g (k + i)) (c := fun i j => subN (y.cps.toList.getD (k + i) 0) (x.cps.toList.getD (k + j) 0)) (by omega) (fun i j hi hj => by
      rw [hx, hy, map_getD (by omega), map_getD (by omega), sub_let (by omega) (by omega)]
      by_cases c : i = j
      · subst c
        rw [if_pos rfl, if_pos rfl]
        by_cases c2 : f (k + i) = g (k + i)
        · simp [c2]
        · have : ¬ g (k + i) = f (k + i) := fun q => c2 q.symm
          simp [c2, this]
      · rw [if_neg c, if_neg (by omega)]) h4
    exact hr row _ q

end
section
open PySem PySem.W PySem.Spec PySem.Calls PyProof PyProof.Rows
theorem nodup_map_on {α β : Type} {f : α → β} : ∀ {l : List α}, l.Nodup → (∀ a ∈ l, ∀ b ∈ l, f a = f b → a = b) → (l.map f).Nodup
  | [], _, _ => by simp
  | a :: l, hn, h => by
    rw [List.map_cons]
    have hn' := List.nodup_cons.mp hn
    refine List.nodup_cons.mpr ⟨?_, nodup_map_on hn'.2 fun x hx y hy => h x (.tail _ hx) y (.tail _ hy)⟩
    intro hm
    obtain ⟨b, hb, e⟩ := List.mem_map.mp hm
    have := h b (.tail _ hb) a (.head _) e
    exact hn'.1 (this ▸ hb)
theorem len_sub {α : Type} [DecidableEq α] : ∀ {l l' : List α}, l.Nodup → (∀ a ∈ l, a ∈ l') → l.length ≤ l'.length
  | [], _, _, _ => Nat.zero_le _
  | a :: l, l', hn, h => by
    have hn' := List.nodup_cons.mp hn
    have ha := h a (.head _)
    have := len_sub (l := l) (l' := l'.erase a) hn'.2 fun b hb => (List.mem_erase_of_ne (fun e : b = a => hn'.1 (by rw [← e]; exact hb))).mpr (h b (.tail _ hb))
    rw [List.length_erase_of_mem ha] at this
    have : 0 < l'.length := List.length_pos_of_mem ha
    rw [List.length_cons]
    omega
structure TreeOk (t : List Int) : Prop where
  nd : t.Nodup
  rg : ∀ m ∈ t, 0 < m ∧ m < 16
  good : bitsOf t ∈ goodL
theorem tree_ok (n : Int) : TreeOk (treeF n) ∧ (treeF n).length ≤ 3 := by
  have a := Int.fmod_nonneg_of_pos n (show (0 : Int) < 11 by decide)
  have b := Int.fmod_lt_of_pos n (show (0 : Int) < 11 by decide)
  have c := Int.fmod_nonneg_of_pos (n.fdiv 11) (show (0 : Int) < 11 by decide)
  have d := Int.fmod_lt_of_pos (n.fdiv 11) (show (0 : Int) < 11 by decide)
  have := good_tree ⟨(n.fmod 11).toNat, by omega⟩ ⟨((n.fdiv 11).fmod 11).toNat, by omega⟩
  simp only [Int.toNat_of_nonneg a, Int.toNat_of_nonneg c] at this
  exact ⟨⟨this.2.1, this.2.2.1, this.1⟩, this.2.2.2⟩
theorem bits_test : ∀ (t : List Int) (b : Nat), (∀ m ∈ t, 0 < m) → ∀ k : Nat, (t.foldl (fun b m => b ||| 2 ^ m.toNat) b).testBit k = (b.testBit k || decide ((k : Int) ∈ t))
  | [], b, _, k => by simp
  | m :: t, b, h, k => by
    rw [List.foldl_cons, bits_test t _ (fun x hx => h x (.tail _ hx)), Nat.testBit_or, Nat.testBit_two_pow]
    have hm := h m (.head _)
    have e : decide (m.toNat = k) = decide ((k : Int) = m) := by
      by_cases q : (k : Int) = m
      · rw [decide_eq_true q, decide_eq_true (by omega)]
      · rw [decide_eq_false q, decide_eq_false (by omega)]
    rw [e, Bool.or_assoc]
    congr 1
    simp [List.mem_cons, Bool.decide_or]
theorem bits_of {t : List Int} (h : ∀ m ∈ t, 0 < m ∧ m < 16) {m : Int} (h0 : 0 < m) : (bitsOf t).testBit m.toNat = decide (m ∈ t) := by
  unfold bitsOf
  rw [bits_test t 0 (fun x hx => (h x hx).1)]
  rw [Int.toNat_of_nonneg (by omega)]
  simp
theorem mem_desc {b : Nat} {m : Int} : m ∈ descB b ↔ (0 < m ∧ m < 16) ∧ b.testBit m.toNat = true := by
  unfold descB
  rw [List.mem_filter]
  refine and_congr_left fun _ => ⟨?_, ?_⟩
  · have h : ∀ x ∈ ([15, 14, 13, 12, 11, 10, 9, 8, 7, 6, 5, 4, 3, 2, 1] : List Int), 0 < x ∧ x < 16 := by decide
    exact h m
  · rintro ⟨h0, h1⟩
    have h : ∀ k : Fin 16, 0 < k.val → ((k.val : Nat) : Int) ∈ ([15, 14, 13, 12, 11, 10, 9, 8, 7, 6, 5, 4, 3, 2, 1] : List Int) := by decide
    have e := h ⟨m.toNat, by omega⟩ (by show 0 < m.toNat; omega)
    have e2 : ((m.toNat : Nat) : Int) = m := Int.toNat_of_nonneg (by omega)
    exact e2 ▸ e
theorem desc_nodup (b : Nat) : (descB b).Nodup := List.Nodup.sublist List.filter_sublist (by decide)
theorem desc_sorted (b : Nat) : (descB b).Pairwise (fun x y => y ≤ x) := List.Pairwise.sublist List.filter_sublist (by decide)
theorem tree_perm {t : List Int} (T : TreeOk t) : t.Perm (descB (bitsOf t)) := by
  refine (List.perm_ext_iff_of_nodup T.nd (desc_nodup _)).mpr fun m => ?_
  rw [mem_desc]
  constructor
  · intro h
    have r := T.rg m h
    exact ⟨r, by rw [bits_of T.rg r.1]; exact decide_eq_true h⟩
  · rintro ⟨r, h⟩
    rw [bits_of T.rg r.1] at h
    exact of_decide_eq_true h
noncomputable def popT (t : List Int) : List Int := popsB (bitsOf t)
theorem pop_mem {t : List Int} (T : TreeOk t) {m : Int} : m ∈ popT t ↔ m ∈ t := by
  have h := good_run _ T.good
  rw [(tree_perm T).mem_iff]
  exact ⟨h.2.2.1 m, h.2.2.2.2 m⟩
theorem pop_nodup {t : List Int} (T : TreeOk t) : (popT t).Nodup := (good_run _ T.good).2.2.2.1
theorem told_tree {t : List Int} (T : TreeOk t) {sh : Int} (h0 : 0 ≤ sh) (h1 : sh < 9) (d : Int) :
    toldRun sh (numsF (descB (bitsOf t)) 16 15 d) ([0], []) = some ([15], namedF sh (popT t)) ∧ (∀ x ∈ numsF (descB (bitsOf t)) 16 15 d, 0 ≤ x ∧ x < 262144) ∧ (numsF (descB (bitsOf t)) 16 15 d).length ≤ 500 := by
  have h := nums_are (descB (bitsOf t)) 16 15 d
  refine ⟨?_, tk_range h, ?_⟩
  · have e := (tk_run h ([0], [])).trans (good_run _ T.good).1
    exact told_of_pile h0 h1 (ms := []) e fun m hm => T.rg m ((pop_mem T).mp hm)
  · have := numsF_len (ts := descB (bitsOf t)) (fun x hx => (mem_desc.mp hx).1) 16 15 d (by decide) (by decide)
    omega
section
variable {sh : Int} (h0 : 0 ≤ sh) (h1 : sh < 9)
include h0 h1
theorem has_named {ms : List Int} (hn : ms.Nodup) (hm : ∀ m ∈ ms, 0 < m ∧ m < 16) {m : Int} (m0 : 0 < m) (m1 : m < 16) : kdpHas (namedF sh ms) (nmN sh m) = decide (m ∈ ms) := by
  rw [file_map h0 h1 ms hn hm]
  by_cases h : m ∈ ms
  · rw [decide_eq_true h]
    exact has_iff.mpr (List.mem_map.mpr ⟨(nmN sh m, m), List.mem_map.mpr ⟨m, h, rfl⟩, rfl⟩)
  · rw [decide_eq_false h]
    refine Bool.eq_false_iff.mpr fun q => h ?_
    obtain ⟨p, hp, e⟩ := List.mem_map.mp (has_iff.mp q)
    obtain ⟨k, hk, rfl⟩ := List.mem_map.mp hp
    have := nm_inj h0 h1 (hm k hk).1 (hm k hk).2 m0 m1 e
    exact this ▸ hk
theorem look_named {ms : List Int} (hn : ms.Nodup) (hm : ∀ m ∈ ms, 0 < m ∧ m < 16) {m d : Int} (m0 : 0 < m) (m1 : m < 16) : kdpLook (namedF sh ms) (nmN sh m) d = if m ∈ ms then m else d := by
  rw [file_map h0 h1 ms hn hm]
  clear hn
  induction ms with
  | nil => simp [kdpLook]
  | cons k ms ih =>
    have hk := hm k (.head _)
    have ih := ih fun x hx => hm x (.tail _ hx)
    unfold kdpLook at ih ⊢
    rw [List.map_cons, List.find?_cons]
    by_cases e : k = m
    · subst e
      simp
    · have : ¬ nmN sh k = nmN sh m := fun q => e (nm_inj h0 h1 hk.1 hk.2 m0 m1 q)
      have e2 : ¬ m = k := fun q => e q.symm
      simp only [decide_eq_false this, List.mem_cons, e2, false_or]
      exact ih
theorem agree_named {ms ks : List Int} (hn : ms.Nodup) (hm : ∀ m ∈ ms, 0 < m ∧ m < 16) (kn : ks.Nodup) (hk : ∀ m, m ∈ ms ↔ m ∈ ks) : Agree (namedF sh ms) (namedF sh ks) := by
  have km : ∀ m ∈ ks, 0 < m ∧ m < 16 := fun m h => hm m ((hk m).mpr h)
  constructor
  · rw [file_map h0 h1 ms hn hm, file_map h0 h1 ks kn km, List.length_map, List.length_map]
    exact ((List.perm_ext_iff_of_nodup hn kn).mpr hk).length_eq
  · intro p hp
    rw [file_map h0 h1 ms hn hm] at hp
    obtain ⟨m, h, rfl⟩ := List.mem_map.mp hp
    have r := hm m h
    exact ⟨by rw [has_named h0 h1 kn km r.1 r.2]; exact decide_eq_true ((hk m).mp h), by rw [look_named h0 h1 kn km r.1 r.2, if_pos ((hk m).mp h)]⟩
theorem keys_named {ms : List Int} (hn : ms.Nodup) (hm : ∀ m ∈ ms, 0 < m ∧ m < 16) : keysF (namedF sh ms) = ms.map (nmN sh) := by
  rw [file_map h0 h1 ms hn hm]
  unfold keysF
  rw [List.map_map]
  rfl
end

end
section
open PySem PySem.W PySem.Spec PySem.Calls PyProof PyProof.Rows
noncomputable def looseF' (ch : List (Str × Int)) : List Str := (keysF ch).filter fun y => decide (kdpLook ch y 0 < 3)
noncomputable def loneF' (xs ys : List Int) (m : Int) : Bool := !(xs.any (· == m)) || !(ys.any (· == m))
noncomputable def rowC (sh : Int) (t : List Int) : List (Str × Int) := namedF sh (popT t)
noncomputable def cnt (t0 t1 t2 : List Int) (m : Int) : Int := (if m ∈ t0 then 1 else 0) + (if m ∈ t1 then 1 else 0) + (if m ∈ t2 then 1 else 0)
noncomputable def heldC (sh : Int) (t0 t1 t2 : List Int) : List (Str × Int) := heldF [rowC sh t0, rowC sh t1, rowC sh t2]
noncomputable def mostL (sh : Int) (t0 t1 t2 : List Int) : List Int := ((keysF (heldC sh t0 t1 t2)).filter fun y => decide (1 < kdpLook (heldC sh t0 t1 t2) y 0)).map fun y => kdpLook (rowC sh t0) y (kdpLook (rowC sh t1) y 0)
theorem count_nodup {l : List Int} (hn : l.Nodup) (m : Int) : (l.countP fun k => decide (k = m) : Nat) = if m ∈ l then 1 else 0 := by
  induction l with
  | nil => simp
  | cons k l ih =>
    have hn' := List.nodup_cons.mp hn
    rw [List.countP_cons, ih hn'.2]
    by_cases e : k = m
    · subst e
      simp [hn'.1]
    · have e2 : ¬ m = k := fun q => e q.symm
      simp [e, e2]
section
variable {sh : Int} (h0 : 0 ≤ sh) (h1 : sh < 9) {t0 t1 t2 : List Int} (T0 : TreeOk t0) (T1 : TreeOk t1) (T2 : TreeOk t2)
include h0 h1 T0 T1 T2
omit T1 T2 in
theorem pop_rg : ∀ m ∈ popT t0, 0 < m ∧ m < 16 := fun m h => T0.rg m ((pop_mem T0).mp h)
theorem held_ys : [rowC sh t0, rowC sh t1, rowC sh t2].flatMap keysF = (popT t0 ++ (popT t1 ++ popT t2)).map (nmN sh) := by
  simp only [List.flatMap_cons, List.flatMap_nil, List.append_nil, rowC]
  rw [keys_named h0 h1 (pop_nodup T0) (pop_rg h0 h1 T0), keys_named h0 h1 (pop_nodup T1) (pop_rg h0 h1 T1), keys_named h0 h1 (pop_nodup T2) (pop_rg h0 h1 T2)]
  simp
theorem held_nodup : (keysF (heldC sh t0 t1 t2)).Nodup := (held_keys _ [] (by simp [keysF])).1
theorem held_mem {y : Str} : y ∈ keysF (heldC sh t0 t1 t2) ↔ ∃ m, (m ∈ t0 ∨ m ∈ t1 ∨ m ∈ t2) ∧ y = nmN sh m := by
  unfold heldC heldF
  rw [(held_keys _ [] (by simp [keysF])).2, held_ys h0 h1 T0 T1 T2]
  simp only [keysF, List.map_nil, List.not_mem_nil, false_or, List.mem_map, List.mem_append]
  constructor
  · rintro ⟨m, hm, rfl⟩
    refine ⟨m, ?_, rfl⟩
    rcases hm with h | h | h
    · exact .inl ((pop_mem T0).mp h)
    · exact .inr (.inl ((pop_mem T1).mp h))
    · exact .inr (.inr ((pop_mem T2).mp h))
  · rintro ⟨m, hm, rfl⟩
    refine ⟨m, ?_, rfl⟩
    rcases hm with h | h | h
    · exact .inl ((pop_mem T0).mpr h)
    · exact .inr (.inl ((pop_mem T1).mpr h))
    · exact .inr (.inr ((pop_mem T2).mpr h))
omit h0 h1 in
theorem any_rg {m : Int} (h : m ∈ t0 ∨ m ∈ t1 ∨ m ∈ t2) : 0 < m ∧ m < 16 := by
  rcases h with h | h | h
  · exact T0.rg m h
  · exact T1.rg m h
  · exact T2.rg m h
theorem held_cnt {m : Int} (m0 : 0 < m) (m1 : m < 16) : kdpLook (heldC sh t0 t1 t2) (nmN sh m) 0 = cnt t0 t1 t2 m := by
  unfold heldC heldF
  rw [held_look, held_ys h0 h1 T0 T1 T2, List.countP_map, List.countP_append, List.countP_append]
  have e : ∀ {t : List Int}, TreeOk t → (popT t).countP ((fun z => decide (z = nmN sh m)) ∘ nmN sh) = if m ∈ t then 1 else 0 := by
    intro t T
    have e1 : (popT t).countP ((fun z => decide (z = nmN sh m)) ∘ nmN sh) = (popT t).countP fun k => decide (k = m) := by
      refine List.countP_congr fun k hk => ?_
      have r := T.rg k ((pop_mem T).mp hk)
      simp only [Function.comp, decide_eq_true_eq]
      exact ⟨fun q => nm_inj h0 h1 r.1 r.2 m0 m1 q, fun q => by rw [q]⟩
    rw [e1, count_nodup (pop_nodup T)]
    by_cases q : m ∈ t
    · rw [if_pos q, if_pos ((pop_mem T).mpr q)]
    · rw [if_neg q, if_neg fun z => q ((pop_mem T).mp z)]
  rw [e T0, e T1, e T2]
  unfold cnt
  simp only [kdpLook, List.find?_nil, Option.map_none, Option.getD_none]
  split <;> split <;> split <;> rfl
theorem most_mem {m : Int} : m ∈ mostL sh t0 t1 t2 ↔ 1 < cnt t0 t1 t2 m := by
  unfold mostL
  simp only [List.mem_map, List.mem_filter, decide_eq_true_eq]
  constructor
  · rintro ⟨y, ⟨hy, hc⟩, rfl⟩
    obtain ⟨k, hk, rfl⟩ := (held_mem h0 h1 T0 T1 T2).mp hy
    have r := any_rg T0 T1 T2 hk
    rw [held_cnt h0 h1 T0 T1 T2 r.1 r.2] at hc
    have e : kdpLook (rowC sh t0) (nmN sh k) (kdpLook (rowC sh t1) (nmN sh k) 0) = k := by
      unfold rowC
      rw [look_named h0 h1 (pop_nodup T0) (pop_rg h0 h1 T0) r.1 r.2, look_named h0 h1 (pop_nodup T1) (pop_rg h0 h1 T1) r.1 r.2]
      by_cases a : k ∈ popT t0
      · rw [if_pos a]
      · rw [if_neg a]
        by_cases b : k ∈ popT t1
        · rw [if_pos b]
        · exfalso
          have a' : k ∉ t0 := fun z => a ((pop_mem T0).mpr z)
          have b' : k ∉ t1 := fun z => b ((pop_mem T1).mpr z)
          unfold cnt at hc
          rw [if_neg a', if_neg b'] at hc
          split at hc <;> omega
    rw [e]
    exact hc
  · intro hc
    have hk : m ∈ t0 ∨ m ∈ t1 ∨ m ∈ t2 := by
      false_or_by_contra
      rename_i q
      simp only [not_or] at q
      unfold cnt at hc
      rw [if_neg q.1, if_neg q.2.1, if_neg q.2.2] at hc
      omega
    have r := any_rg T0 T1 T2 hk
    refine ⟨nmN sh m, ⟨(held_mem h0 h1 T0 T1 T2).mpr ⟨m, hk, rfl⟩, by rw [held_cnt h0 h1 T0 T1 T2 r.1 r.2]; exact hc⟩, ?_⟩
    unfold rowC
    rw [look_named h0 h1 (pop_nodup T0) (pop_rg h0 h1 T0) r.1 r.2, look_named h0 h1 (pop_nodup T1) (pop_rg h0 h1 T1) r.1 r.2]
    by_cases a : m ∈ popT t0
    · rw [if_pos a]
    · rw [if_neg a]
      by_cases b : m ∈ popT t1
      · rw [if_pos b]
      · exfalso
        have a' : m ∉ t0 := fun z => a ((pop_mem T0).mpr z)
        have b' : m ∉ t1 := fun z => b ((pop_mem T1).mpr z)
        unfold cnt at hc
        rw [if_neg a', if_neg b'] at hc
        split at hc <;> omega
theorem most_nodup : (mostL sh t0 t1 t2).Nodup := by
  unfold mostL
  refine nodup_map_on (List.Nodup.sublist List.filter_sublist (held_nodup h0 h1 T0 T1 T2)) ?_
  have key : ∀ y ∈ (keysF (heldC sh t0 t1 t2)).filter (fun y => decide (1 < kdpLook (heldC sh t0 t1 t2) y 0)), y = nmN sh (kdpLook (rowC sh t0) y (kdpLook (rowC sh t1) y 0)) := by
    intro y hy
    rw [List.mem_filter] at hy
    obtain ⟨hy, hc⟩ := hy
    have hc := of_decide_eq_true hc
    obtain ⟨k, hk, rfl⟩ := (held_mem h0 h1 T0 T1 T2).mp hy
    have r := any_rg T0 T1 T2 hk
    rw [held_cnt h0 h1 T0 T1 T2 r.1 r.2] at hc
    unfold rowC
    rw [look_named h0 h1 (pop_nodup T0) (pop_rg h0 h1 T0) r.1 r.2, look_named h0 h1 (pop_nodup T1) (pop_rg h0 h1 T1) r.1 r.2]
    by_cases a : k ∈ popT t0
    · rw [if_pos a]
    · rw [if_neg a]
      by_cases b : k ∈ popT t1
      · rw [if_pos b]
      · exfalso
        have a' : k ∉ t0 := fun z => a ((pop_mem T0).mpr z)
        have b' : k ∉ t1 := fun z => b ((pop_mem T1).mpr z)
        unfold cnt at hc
        rw [if_neg a', if_neg b'] at hc
        split at hc <;> omega
  intro a ha b hb e
  rw [key a ha, key b hb, e]
theorem most_ok : TreeOk (mostL sh t0 t1 t2) := by
  have rg : ∀ m ∈ mostL sh t0 t1 t2, 0 < m ∧ m < 16 := by
    intro m hm
    have hc := (most_mem h0 h1 T0 T1 T2).mp hm
    refine any_rg T0 T1 T2 ?_
    false_or_by_contra
    rename_i q
    simp only [not_or] at q
    unfold cnt at hc
    rw [if_neg q.1, if_neg q.2.1, if_neg q.2.2] at hc
    omega
  refine ⟨most_nodup h0 h1 T0 T1 T2, rg, ?_⟩
  have hj := good_maj
  have hj := List.all_eq_true.mp (List.all_eq_true.mp (List.all_eq_true.mp hj _ T0.good) _ T1.good) _ T2.good
  have e : bitsOf (mostL sh t0 t1 t2) = majB (bitsOf t0) (bitsOf t1) (bitsOf t2) := by
    refine Nat.eq_of_testBit_eq fun k => ?_
    unfold majB
    rw [Nat.testBit_or, Nat.testBit_or, Nat.testBit_and, Nat.testBit_and, Nat.testBit_and]
    unfold bitsOf
    rw [bits_test _ 0 (fun x hx => (rg x hx).1), bits_test _ 0 (fun x hx => (T0.rg x hx).1), bits_test _ 0 (fun x hx => (T1.rg x hx).1), bits_test _ 0 (fun x hx => (T2.rg x hx).1)]
    simp only [Nat.zero_testBit, Bool.false_or]
    have := most_mem h0 h1 T0 T1 T2 (m := (k : Int))
    unfold cnt at this
    by_cases a : (k : Int) ∈ t0 <;> by_cases b : (k : Int) ∈ t1 <;> by_cases c : (k : Int) ∈ t2 <;> simp [a, b, c] at this ⊢ <;> exact this
  rw [e]
  exact List.contains_iff_mem.mp hj
end

end
section
open PySem PySem.W PySem.Spec PySem.Calls PyProof PyProof.Rows
noncomputable def neqF (c c' : List (Str × Int)) (y : Str) : Bool := kdpHas c y != kdpHas c' y
theorem count_range {l : List Str} {p : Str → Bool} : (List.range l.length).countP (fun i => p (l.getD i (Str.ofString ""))) = l.countP p := by
  have e : l = (List.range l.length).map fun i => l.getD i (Str.ofString "") := by
    apply List.ext_getElem?
    intro i
    rw [List.getElem?_map]
    rcases Nat.lt_or_ge i l.length with h | h
    · simp [List.getD_eq_getElem?_getD, h]
    · rw [List.getElem?_eq_none h, List.getElem?_eq_none (by simpa using h)]
      rfl
  conv => rhs; rw [e]
  rw [List.countP_map]
  rfl
theorem lev_words {lo : List Str} {c c' : List (Str × Int)} {v : Int} (hn : lo.length ≤ 6) (h : LevIs lo.length (wordF lo c) (wordF lo c') v) (h4 : lo.countP (neqF c c') ≤ 4) : v = (lo.countP (neqF c c') : Int) := by
  have e := count_range (l := lo) (p := neqF c c')
  rw [← e] at h4 ⊢
  exact lev_ham hn (f := fun i => kdpHas c (lo.getD i (Str.ofString ""))) (g := fun i => kdpHas c' (lo.getD i (Str.ofString ""))) (word_list lo c) (word_list lo c') h h4
section
variable {sh : Int} (h0 : 0 ≤ sh) (h1 : sh < 9) {t0 t1 t2 : List Int} (T0 : TreeOk t0) (T1 : TreeOk t1) (T2 : TreeOk t2)
include h0 h1 T0 T1 T2
theorem loose_mem {y : Str} : y ∈ looseF (heldC sh t0 t1 t2) ↔ ∃ m, (m ∈ t0 ∨ m ∈ t1 ∨ m ∈ t2) ∧ cnt t0 t1 t2 m < 3 ∧ y = nmN sh m := by
  unfold looseF
  rw [List.mem_filter, held_mem h0 h1 T0 T1 T2]
  constructor
  · rintro ⟨⟨m, hm, rfl⟩, hc⟩
    have r := any_rg T0 T1 T2 hm
    have hc := of_decide_eq_true hc
    rw [held_cnt h0 h1 T0 T1 T2 r.1 r.2] at hc
    exact ⟨m, hm, hc, rfl⟩
  · rintro ⟨m, hm, hc, rfl⟩
    have r := any_rg T0 T1 T2 hm
    exact ⟨⟨m, hm, rfl⟩, decide_eq_true (by rw [held_cnt h0 h1 T0 T1 T2 r.1 r.2]; exact hc)⟩
theorem loose_nodup : (looseF (heldC sh t0 t1 t2)).Nodup := List.Nodup.sublist List.filter_sublist (held_nodup h0 h1 T0 T1 T2)
omit h0 h1 T1 T2 in
theorem in15 : (15 : Int) ∈ t0 := by
  have := (good_15 _ T0.good).1
  rw [show (15 : Nat) = (15 : Int).toNat from rfl, bits_of T0.rg (by decide)] at this
  exact of_decide_eq_true this
theorem loose_len (z0 : t0.length ≤ 3) (z1 : t1.length ≤ 3) (z2 : t2.length ≤ 3) : (looseF (heldC sh t0 t1 t2)).length ≤ 6 := by
  have hs : ∀ y ∈ looseF (heldC sh t0 t1 t2), y ∈ (t0.erase 15 ++ (t1.erase 15 ++ t2.erase 15)).map (nmN sh) := by
    intro y hy
    obtain ⟨m, hm, hc, rfl⟩ := (loose_mem h0 h1 T0 T1 T2).mp hy
    refine List.mem_map.mpr ⟨m, ?_, rfl⟩
    have ne : m ≠ 15 := by
      rintro rfl
      unfold cnt at hc
      rw [if_pos (in15 T0), if_pos (in15 T1), if_pos (in15 T2)] at hc
      omega
    rw [List.mem_append, List.mem_append, List.mem_erase_of_ne ne, List.mem_erase_of_ne ne, List.mem_erase_of_ne ne]
    exact hm
  have := len_sub (loose_nodup h0 h1 T0 T1 T2) hs
  rw [List.length_map, List.length_append, List.length_append, List.length_erase_of_mem (in15 T0), List.length_erase_of_mem (in15 T1), List.length_erase_of_mem (in15 T2)] at this
  omega
omit T0 T1 T2 in
theorem has_row {t : List Int} (T : TreeOk t) {m : Int} (m0 : 0 < m) (m1 : m < 16) : kdpHas (rowC sh t) (nmN sh m) = decide (m ∈ t) := by
  unfold rowC
  rw [has_named h0 h1 (pop_nodup T) (pop_rg h0 h1 T) m0 m1]
  by_cases q : m ∈ t
  · rw [decide_eq_true q, decide_eq_true ((pop_mem T).mpr q)]
  · rw [decide_eq_false q, decide_eq_false fun z => q ((pop_mem T).mp z)]
omit h0 h1 T0 T1 T2 in
theorem lone_iff {xs ys : List Int} {m : Int} : loneF xs ys m = true ↔ ¬ (m ∈ xs ∧ m ∈ ys) := by
  unfold loneF
  have e : ∀ l : List Int, (l.any (· == m)) = decide (m ∈ l) := by
    intro l
    by_cases h : m ∈ l
    · rw [decide_eq_true h]
      exact List.any_eq_true.mpr ⟨m, h, by simp⟩
    · rw [decide_eq_false h]
      refine Bool.eq_false_iff.mpr fun q => h ?_
      obtain ⟨k, hk, e⟩ := List.any_eq_true.mp q
      exact (beq_iff_eq.mp e) ▸ hk
  rw [e, e]
  by_cases a : m ∈ xs <;> by_cases b : m ∈ ys <;> simp [a, b]
/-- the texts that part two trees are as many as the clusters that one of them alone has -/
theorem parted {a b : List Int} (A : TreeOk a) (B : TreeOk b) (ha : ∀ m ∈ a, m ∈ t0 ∨ m ∈ t1 ∨ m ∈ t2) (hb : ∀ m ∈ b, m ∈ t0 ∨ m ∈ t1 ∨ m ∈ t2) (hab : ∀ m, ¬ (m ∈ a ↔ m ∈ b) → cnt t0 t1 t2 m < 3) :
    (looseF (heldC sh t0 t1 t2)).countP (neqF (rowC sh a) (rowC sh b)) = ((a ++ b).filter (loneF a b)).length := by
  rw [List.countP_eq_length_filter]
  have nd : ((a ++ b).filter (loneF a b)).Nodup := by
    rw [List.filter_append]
    refine List.nodup_append.mpr ⟨List.Nodup.sublist List.filter_sublist A.nd, List.Nodup.sublist List.filter_sublist B.nd, ?_⟩
    rintro x hx y hy rfl
    have h1 := List.mem_filter.mp hx
    have h2 := List.mem_filter.mp hy
    exact lone_iff.mp h1.2 ⟨h1.1, h2.1⟩
  have rg : ∀ m ∈ (a ++ b).filter (loneF a b), 0 < m ∧ m < 16 := by
    intro m hm
    rcases List.mem_append.mp (List.mem_filter.mp hm).1 with h | h
    · exact A.rg m h
    · exact B.rg m h
  have pm : ((looseF (heldC sh t0 t1 t2)).filter (neqF (rowC sh a) (rowC sh b))).Perm (((a ++ b).filter (loneF a b)).map (nmN sh)) := by
    refine (List.perm_ext_iff_of_nodup (List.Nodup.sublist List.filter_sublist (loose_nodup h0 h1 T0 T1 T2)) (nodup_map_on nd fun x hx y hy e => nm_inj h0 h1 (rg x hx).1 (rg x hx).2 (rg y hy).1 (rg y hy).2 e)).mpr fun y => ?_
    rw [List.mem_filter, loose_mem h0 h1 T0 T1 T2, List.mem_map]
    constructor
    · rintro ⟨⟨m, hm, hc, rfl⟩, hn⟩
      have r := any_rg T0 T1 T2 hm
      unfold neqF at hn
      rw [has_row h0 h1 A r.1 r.2, has_row h0 h1 B r.1 r.2] at hn
      refine ⟨m, List.mem_filter.mpr ⟨?_, ?_⟩, rfl⟩
      · by_cases p : m ∈ a
        · exact List.mem_append_left _ p
        · by_cases q : m ∈ b
          · exact List.mem_append_right _ q
          · simp [p, q] at hn
      · rw [lone_iff]
        rintro ⟨p, q⟩
        simp [p, q] at hn
    · rintro ⟨m, hm, rfl⟩
      have hm' := List.mem_filter.mp hm
      have r := rg m hm
      have hl := lone_iff.mp hm'.2
      have hd : ¬ (m ∈ a ↔ m ∈ b) := by
        intro e
        rcases List.mem_append.mp hm'.1 with h | h
        · exact hl ⟨h, e.mp h⟩
        · exact hl ⟨e.mpr h, h⟩
      refine ⟨⟨m, ?_, hab m hd, rfl⟩, ?_⟩
      · rcases List.mem_append.mp hm'.1 with h | h
        · exact ha m h
        · exact hb m h
      · unfold neqF
        rw [has_row h0 h1 A r.1 r.2, has_row h0 h1 B r.1 r.2]
        by_cases p : m ∈ a <;> by_cases q : m ∈ b <;> simp [p, q] at hd ⊢
  rw [pm.length_eq, List.length_map]
omit h0 h1 T0 T1 T2 in
theorem lone_len {a b : List Int} (A : TreeOk a) (B : TreeOk b) (za : a.length ≤ 3) (zb : b.length ≤ 3) : ((a ++ b).filter (loneF a b)).length ≤ 4 := by
  have nd : ((a ++ b).filter (loneF a b)).Nodup := by
    rw [List.filter_append]
    refine List.nodup_append.mpr ⟨List.Nodup.sublist List.filter_sublist A.nd, List.Nodup.sublist List.filter_sublist B.nd, ?_⟩
    rintro x hx y hy rfl
    have h1 := List.mem_filter.mp hx
    have h2 := List.mem_filter.mp hy
    exact lone_iff.mp h1.2 ⟨h1.1, h2.1⟩
  have hs : ∀ m ∈ (a ++ b).filter (loneF a b), m ∈ a.erase 15 ++ b.erase 15 := by
    intro m hm
    have hm' := List.mem_filter.mp hm
    have hl := lone_iff.mp hm'.2
    have ne : m ≠ 15 := by
      rintro rfl
      exact hl ⟨in15 A, in15 B⟩
    rw [List.mem_append, List.mem_erase_of_ne ne, List.mem_erase_of_ne ne]
    exact List.mem_append.mp hm'.1
  have := len_sub nd hs
  rw [List.length_append, List.length_erase_of_mem (in15 A), List.length_erase_of_mem (in15 B)] at this
  omega
end

end
section
open PySem PySem.W PySem.Spec PySem.Calls PyProof PyProof.Rows
theorem count_add {l : List Str} {p q r : Str → Bool} (h : ∀ y ∈ l, (p y).toNat + (q y).toNat = (r y).toNat) : l.countP p + l.countP q = l.countP r := by
  induction l with
  | nil => rfl
  | cons y l ih =>
    have := ih fun z hz => h z (.tail _ hz)
    have hy := h y (.head _)
    rw [List.countP_cons, List.countP_cons, List.countP_cons]
    cases hp : p y <;> cases hq : q y <;> cases hr : r y <;> simp [hp, hq, hr] at hy ⊢ <;> omega
noncomputable def dueL (t0 t1 t2 : List Int) (n : Nat) : List Int := ((List.range n).map fun i : Nat => 1 + (i : Int)).filter fun m => decide (1 < cnt t0 t1 t2 m)
section
variable {sh : Int} (h0 : 0 ≤ sh) (h1 : sh < 9) {t0 t1 t2 : List Int} (T0 : TreeOk t0) (T1 : TreeOk t1) (T2 : TreeOk t2)
include h0 h1 T0 T1 T2
theorem sum_mid (a b c : List Int) (A : TreeOk a) (B : TreeOk b) (hc : ∀ m, cnt t0 t1 t2 m = cnt a b c m) : 
    (looseF (heldC sh t0 t1 t2)).countP (neqF (rowC sh a) (rowC sh (mostL sh t0 t1 t2))) + (looseF (heldC sh t0 t1 t2)).countP (neqF (rowC sh b) (rowC sh (mostL sh t0 t1 t2))) = (looseF (heldC sh t0 t1 t2)).countP (neqF (rowC sh b) (rowC sh a)) := by
  refine count_add fun y hy => ?_
  obtain ⟨m, hm, hl, rfl⟩ := (loose_mem h0 h1 T0 T1 T2).mp hy
  have r := any_rg T0 T1 T2 hm
  have M := most_ok h0 h1 T0 T1 T2
  unfold neqF
  rw [has_row h0 h1 A r.1 r.2, has_row h0 h1 B r.1 r.2, has_row h0 h1 M r.1 r.2]
  have e := most_mem h0 h1 T0 T1 T2 (m := m)
  rw [hc] at e
  unfold cnt at e
  by_cases p : m ∈ a <;> by_cases q : m ∈ b <;> by_cases z : m ∈ c <;> by_cases w : m ∈ mostL sh t0 t1 t2 <;> simp [p, q, z, w] at e ⊢
theorem due_agree : Agree (rowC sh (mostL sh t0 t1 t2)) (namedF sh (dueL t0 t1 t2 15)) := by
  have M := most_ok h0 h1 T0 T1 T2
  refine agree_named h0 h1 (pop_nodup M) (pop_rg h0 h1 M) ?_ ?_
  · unfold dueL
    refine List.Nodup.sublist List.filter_sublist ?_
    exact nodup_map_on List.nodup_range fun x _ y _ e => by omega
  · intro m
    rw [pop_mem M, most_mem h0 h1 T0 T1 T2]
    unfold dueL
    rw [List.mem_filter, decide_eq_true_eq]
    refine ⟨fun h => ⟨?_, h⟩, fun h => h.2⟩
    have r := M.rg m ((most_mem h0 h1 T0 T1 T2).mpr h)
    exact List.mem_map.mpr ⟨(m - 1).toNat, List.mem_range.mpr (by omega), by omega⟩
omit T1 T2 in
theorem row_agree : Agree (rowC sh t0) (namedF sh t0) := agree_named h0 h1 (pop_nodup T0) (pop_rg h0 h1 T0) T0.nd fun m => pop_mem T0
theorem held_len (z0 : t0.length ≤ 3) (z1 : t1.length ≤ 3) (z2 : t2.length ≤ 3) : (heldC sh t0 t1 t2).length ≤ 16 := by
  unfold heldC heldF
  have := heldStep_len ([rowC sh t0, rowC sh t1, rowC sh t2].flatMap keysF) []
  rw [held_ys h0 h1 T0 T1 T2, List.length_map, List.length_append, List.length_append] at this
  have e : ∀ {t : List Int}, TreeOk t → t.length ≤ 3 → (popT t).length ≤ 3 := fun {t} T z => by
    have := (List.perm_ext_iff_of_nodup (pop_nodup T) T.nd).mpr (fun m => pop_mem T)
    rw [this.length_eq]
    exact z
  have a := e T0 z0
  have b := e T1 z1
  have c := e T2 z2
  rw [held_ys h0 h1 T0 T1 T2]
  simp only [List.length_nil] at this
  omega
omit T1 T2 in
theorem row_len (z0 : t0.length ≤ 3) : (rowC sh t0).length ≤ 16 := by
  unfold rowC
  rw [file_map h0 h1 _ (pop_nodup T0) (pop_rg h0 h1 T0), List.length_map, ((List.perm_ext_iff_of_nodup (pop_nodup T0) T0.nd).mpr (fun m => pop_mem T0)).length_eq]
  omega
end

end
section
open PySem PySem.W PySem.Spec PySem.Calls PyProof PyProof.Rows
theorem neq_comm (c c' : List (Str × Int)) : neqF c c' = neqF c' c := by
  funext y
  unfold neqF
  cases kdpHas c y <;> cases kdpHas c' y <;> rfl
theorem due_rg {t0 t1 t2 : List Int} : ∀ m ∈ dueL t0 t1 t2 15, 0 < m ∧ m < 16 := by
  intro m h
  unfold dueL at h
  obtain ⟨i, hi, rfl⟩ := List.mem_map.mp (List.mem_filter.mp h).1
  have := List.mem_range.mp hi
  omega
theorem due_len {t0 t1 t2 : List Int} : (dueL t0 t1 t2 15).length ≤ 16 := by
  unfold dueL
  refine Nat.le_trans (List.length_filter_le _ _) ?_
  rw [List.length_map, List.length_range]
  omega
section
variable {sh : Int} (h0 : 0 ≤ sh) (h1 : sh < 9) {x0 x1 x2 : List Int} (T0 : TreeOk x0) (T1 : TreeOk x1) (T2 : TreeOk x2) (z0 : x0.length ≤ 3) (z1 : x1.length ≤ 3) (z2 : x2.length ≤ 3)
include h0 h1 T0 T1 T2 z0 z1 z2
/-- two of the three trees -/
theorem bet_pair (a b c : List Int) (A : TreeOk a) (B : TreeOk b) (za : a.length ≤ 3) (zb : b.length ≤ 3) (ha : ∀ m ∈ a, m ∈ x0 ∨ m ∈ x1 ∨ m ∈ x2) (hb : ∀ m ∈ b, m ∈ x0 ∨ m ∈ x1 ∨ m ∈ x2) (hc : ∀ m, cnt x0 x1 x2 m = cnt a b c m) :
    ((∀ v, LevIs (looseF (heldC sh x0 x1 x2)).length (wordF (looseF (heldC sh x0 x1 x2)) (rowC sh a)) (wordF (looseF (heldC sh x0 x1 x2)) (rowC sh b)) v → v = ((b ++ a).filter (loneF b a)).length) ∧
      (((looseF (heldC sh x0 x1 x2)).countP (neqF (rowC sh b) (rowC sh (mostL sh x0 x1 x2))) : Nat) : Int) + ((looseF (heldC sh x0 x1 x2)).countP (neqF (rowC sh a) (rowC sh (mostL sh x0 x1 x2))) : Nat) = ((b ++ a).filter (loneF b a)).length) ∧
      (looseF (heldC sh x0 x1 x2)).countP (neqF (rowC sh a) (rowC sh (mostL sh x0 x1 x2))) ≤ 4 ∧ (looseF (heldC sh x0 x1 x2)).countP (neqF (rowC sh b) (rowC sh (mostL sh x0 x1 x2))) ≤ 4 := by
  have p := parted h0 h1 T0 T1 T2 B A hb ha (fun m e => by
    rw [hc]
    unfold cnt
    by_cases p : m ∈ a <;> by_cases q : m ∈ b <;> by_cases r : m ∈ c <;> simp [p, q, r] at e ⊢)
  have l := lone_len B A zb za
  have s := sum_mid h0 h1 T0 T1 T2 a b c A B hc
  refine ⟨⟨fun v hv => ?_, ?_⟩, ?_, ?_⟩
  · rw [← p]
    rw [neq_comm (rowC sh b) (rowC sh a)]
    refine lev_words (loose_len h0 h1 T0 T1 T2 z0 z1 z2) hv ?_
    rw [neq_comm]
    omega
  · rw [← p]
    omega
  · omega
  · omega
theorem bet_facts : (∀ k < 3, ∀ v, LevIs (looseF (heldC sh x0 x1 x2)).length ([wordF (looseF (heldC sh x0 x1 x2)) (rowC sh x0), wordF (looseF (heldC sh x0 x1 x2)) (rowC sh x1), wordF (looseF (heldC sh x0 x1 x2)) (rowC sh x2), wordF (looseF (heldC sh x0 x1 x2)) (rowC sh (mostL sh x0 x1 x2))].getD k (Str.ofString "")) (wordF (looseF (heldC sh x0 x1 x2)) (rowC sh (mostL sh x0 x1 x2))) v →
      v = [(((looseF (heldC sh x0 x1 x2)).countP (neqF (rowC sh x0) (rowC sh (mostL sh x0 x1 x2))) : Nat) : Int), ((looseF (heldC sh x0 x1 x2)).countP (neqF (rowC sh x1) (rowC sh (mostL sh x0 x1 x2))) : Nat), ((looseF (heldC sh x0 x1 x2)).countP (neqF (rowC sh x2) (rowC sh (mostL sh x0 x1 x2))) : Nat)].getD k 0) ∧
    ((∀ v, LevIs (looseF (heldC sh x0 x1 x2)).length (wordF (looseF (heldC sh x0 x1 x2)) (rowC sh x0)) (wordF (looseF (heldC sh x0 x1 x2)) (rowC sh x1)) v → v = ((x1 ++ x0).filter (loneF x1 x0)).length) ∧
      (((looseF (heldC sh x0 x1 x2)).countP (neqF (rowC sh x1) (rowC sh (mostL sh x0 x1 x2))) : Nat) : Int) + ((looseF (heldC sh x0 x1 x2)).countP (neqF (rowC sh x0) (rowC sh (mostL sh x0 x1 x2))) : Nat) = ((x1 ++ x0).filter (loneF x1 x0)).length) ∧
    ((∀ v, LevIs (looseF (heldC sh x0 x1 x2)).length (wordF (looseF (heldC sh x0 x1 x2)) (rowC sh x0)) (wordF (looseF (heldC sh x0 x1 x2)) (rowC sh x2)) v → v = ((x2 ++ x0).filter (loneF x2 x0)).length) ∧
      (((looseF (heldC sh x0 x1 x2)).countP (neqF (rowC sh x2) (rowC sh (mostL sh x0 x1 x2))) : Nat) : Int) + ((looseF (heldC sh x0 x1 x2)).countP (neqF (rowC sh x0) (rowC sh (mostL sh x0 x1 x2))) : Nat) = ((x2 ++ x0).filter (loneF x2 x0)).length) ∧
    ((∀ v, LevIs (looseF (heldC sh x0 x1 x2)).length (wordF (looseF (heldC sh x0 x1 x2)) (rowC sh x1)) (wordF (looseF (heldC sh x0 x1 x2)) (rowC sh x2)) v → v = ((x2 ++ x1).filter (loneF x2 x1)).length) ∧
      (((looseF (heldC sh x0 x1 x2)).countP (neqF (rowC sh x2) (rowC sh (mostL sh x0 x1 x2))) : Nat) : Int) + ((looseF (heldC sh x0 x1 x2)).countP (neqF (rowC sh x1) (rowC sh (mostL sh x0 x1 x2))) : Nat) = ((x2 ++ x1).filter (loneF x2 x1)).length) := by
  have p10 := bet_pair h0 h1 T0 T1 T2 z0 z1 z2 x0 x1 x2 T0 T1 z0 z1 (fun m h => .inl h) (fun m h => .inr (.inl h)) (fun m => rfl)
  have p20 := bet_pair h0 h1 T0 T1 T2 z0 z1 z2 x0 x2 x1 T0 T2 z0 z2 (fun m h => .inl h) (fun m h => .inr (.inr h)) (fun m => by unfold cnt; omega)
  have p21 := bet_pair h0 h1 T0 T1 T2 z0 z1 z2 x1 x2 x0 T1 T2 z1 z2 (fun m h => .inr (.inl h)) (fun m h => .inr (.inr h)) (fun m => by unfold cnt; omega)
  refine ⟨?_, p10.1, p20.1, p21.1⟩
  have ll := loose_len h0 h1 T0 T1 T2 z0 z1 z2
  intro k hk v hv
  rcases (show k = 0 ∨ k = 1 ∨ k = 2 by omega) with rfl | rfl | rfl
  · exact lev_words ll hv p10.2.1
  · exact lev_words ll hv p10.2.2
  · exact lev_words ll hv p20.2.2
end

end
section
open PySem PySem.W PySem.Spec PySem.Calls PyProof.Rows
theorem post_ok (a b : List WData) : WTm.value PySem.Challenge.rw_rs0060_01.row.records PySem.Challenge.rw_rs0060_01.row.post { args := a, res := some (WData.bool true), after := b } = some (WData.bool (true == true)) := by
  show WTm.value [] (.eq .res (.lit (.bool true))) _ = _
  exact w_eq_bool (w_res rfl) w_lit

end
section
open PySem PySem.W PySem.Spec PySem.Calls PyProof.Rows PyProof.Rows.LCg PyProof.Rows.LCt
set_option maxHeartbeats 0
set_option rowWalk.seconds 0
theorem good_len : ∀ b ∈ goodL, (descB b).length ≤ 3 := by decide +kernel
theorem tree_len {t : List Int} (T : TreeOk t) : t.length ≤ 3 := by
  rw [(tree_perm T).length_eq]
  exact good_len _ T.good
theorem drop_second {a b : Addr × Obj} {l : List (Addr × Obj)} : ∀ p ∈ a :: l, p ∈ a :: b :: l := fun p hp => by
  rcases List.mem_cons.mp hp with rfl | hp
  · exact .head _
  · exact .tail _ (.tail _ hp)
theorem cnt_len (x0 x1 x2 : List Int) (m : Int) : ((([x0, x1, x2].filter fun t => t.any (· == m)).length : Nat) : Int) = cnt x0 x1 x2 m := by
  have e : ∀ l : List Int, (l.any (· == m)) = decide (m ∈ l) := by
    intro l
    by_cases h : m ∈ l
    · rw [decide_eq_true h]
      exact List.any_eq_true.mpr ⟨m, h, by simp⟩
    · rw [decide_eq_false h]
      refine Bool.eq_false_iff.mpr fun q => h ?_
      obtain ⟨k, hk, e⟩ := List.any_eq_true.mp q
      exact (beq_iff_eq.mp e) ▸ hk
  unfold cnt
  simp only [e]
  by_cases a : m ∈ x0 <;> by_cases b : m ∈ x1 <;> by_cases c : m ∈ x2 <;> simp [a, b, c]
theorem due_succ (x0 x1 x2 : List Int) (i : Nat) : dueL x0 x1 x2 (i + 1) = dueL x0 x1 x2 i ++ (if 1 < cnt x0 x1 x2 (1 + (i : Int)) then [1 + (i : Int)] else []) := by
  unfold dueL
  rw [List.range_succ, List.map_append, List.filter_append]
  congr 1
  simp only [List.map_cons, List.map_nil, List.filter_cons, List.filter_nil]
  by_cases h : 1 < cnt x0 x1 x2 (1 + (i : Int))
  · rw [if_pos h, if_pos (decide_eq_true h)]
  · rw [if_neg h, if_neg (fun q => h (of_decide_eq_true q))]
theorem tree_at {x0 x1 x2 : List Int} (T0 : TreeOk x0) (T1 : TreeOk x1) (T2 : TreeOk x2) (z0 : x0.length ≤ 3) (z1 : x1.length ≤ 3) (z2 : x2.length ≤ 3) : ∀ (j : Nat) y, [x0, x1, x2][j]? = some y → TreeOk y ∧ y.length ≤ 3 := by
  intro j y h
  have hi : j < 3 := (List.getElem?_eq_some_iff.mp h).1
  rcases (show j = 0 ∨ j = 1 ∨ j = 2 by omega) with rfl | rfl | rfl
  · cases h; exact ⟨T0, z0⟩
  · cases h; exact ⟨T1, z1⟩
  · cases h; exact ⟨T2, z2⟩
theorem held_arg {w : World} {r0 r1 r2 : Addr} {o0 o1 o2 : Obj} {c0 c1 c2 : List (Str × Int)} (d0 : DS w o0 c0) (d1 : DS w o1 c1) (d2 : DS w o2 c2) (l0 : (r0 == sysModules) = false) (l1 : (r1 == sysModules) = false) (l2 : (r2 == sysModules) = false) (z0 : c0.length ≤ 16) (z1 : c1.length ≤ 16) (z2 : c2.length ≤ 16) :
    ∀ (i : Nat) (p : Addr × Obj), [(r0, o0), (r1, o1), (r2, o2)][i]? = some p → ∃ c, [c0, c1, c2][i]? = some c ∧ DS w p.2 c ∧ c.length ≤ 16 ∧ (p.1 == sysModules) = false := by
  intro i p h
  have hi : i < 3 := (List.getElem?_eq_some_iff.mp h).1
  rcases (show i = 0 ∨ i = 1 ∨ i = 2 by omega) with rfl | rfl | rfl
  · cases h; exact ⟨c0, rfl, d0, z0, l0⟩
  · cases h; exact ⟨c1, rfl, d1, z1, l1⟩
  · cases h; exact ⟨c2, rfl, d2, z2, l2⟩
section
theorem t1 : Challenge.rw_rs0060_01.Holds := hd (by
  w_top off
  k_with_none
  k_with "call builtin:list.extend" => (k_here; (with_reducible show wpAny _ _ (call (Value.builtin _) [Value.ref _, Value.ref _]) _ _ _); k_dflt (refine' my_extend ?zwF ?zwN ?zwU ?zwb ?zwi ?zwj ?zwz ?_; (case zwF => k_asm); (case zwN => k_asm); (case zwb => k_mem); (case zwU => (intro t'; k_upd)); (case zwi => assumption); (case zwj => assumption); (case zwz => (rw [sizeLine_eq]; omega))); intro k' h' F' N' i')
  k_with "call builtin:iter" => (k_here; (with_reducible show wpAny _ _ (call (Value.builtin "iter") [Value.ref _]) _ _ _); k_dflt (refine' my_iter ?zwF ?zwN ?zwm ?_; (case zwF => k_asm); (case zwN => k_asm); (case zwm => k_mem)); intro I' h' F' N' l1; (try k_lt l1))
  k_with "CompSrcT" => refine Stop.mk ?_
  k_with "CompSrc" => refine Stop.mk ?_
  k_with "subscriptTail Name Name ref int" => (k_here; (with_reducible show wpAny _ _ (subscriptTail _ _ (Value.ref _) (Value.int _ _)) _ _ _); k_dflt (refine' its_sub ?zwk1 ?zwk2 (Int.zero_add _) ?zwk4 ?zwk5 ?_ ?zwk7; (case zwk1 => k_asm); (case zwk2 => k_mem); (case zwk4 => with_reducible assumption); (case zwk5 => with_reducible assumption); (case zwk7 => with_unfolding_all rfl); k_whole))
  k_with "subscriptTail Name Constant ref int" => (k_here; (with_reducible show wpAny _ _ (subscriptTail _ _ (Value.ref _) (Value.int _ _)) _ _ _); k_dflt (refine' lit_sub ?zwk1 ?zwk2 ?zwk3 ?zwk4 ?zwk5 ?_ ?zwk7; (case zwk1 => k_asm); (case zwk2 => k_mem); (case zwk3 => rfl); (case zwk4 => decide); (case zwk5 => decide); (case zwk7 => with_unfolding_all rfl); k_whole))
  k_with "subscriptTail Name Name ref str" => (k_here; (with_reducible show wpAny _ _ (subscriptTail _ _ (Value.ref _) (Value.str _ _)) _ _ _); k_dflt (refine' my_dsub ?zwN ?zwm ?zwlo ?zwd ?zwf ?zwh ?_ ?zwhs ?zwhg; (case zwN => k_asm); (case zwm => k_mem); (case zwlo => assumption); (case zwd => assumption); (case zwf => assumption); (case zwh => assumption); (case zwhs => with_unfolding_all rfl); (case zwhg => (intro _; with_unfolding_all rfl))); intro t')
  k_with "call builtin:dict.get" => (k_here; k_dflt (refine' my_get2 ?zwN ?zwm ?zwlo ?zwd ?zwf ?_; (case zwN => k_asm); (case zwm => k_mem); (case zwlo => assumption); (case zwd => assumption); (case zwf => assumption)); intro t')
  k_with "compareOp In int ref" => (k_here; k_dflt (refine' my_in ?zwN ?zwm ?zwi ?_; (case zwN => k_asm); (case zwm => k_mem); (case zwi => assumption)))
  k_with "call builtin:len cons nil" => (k_here; (with_reducible show wpAny _ _ (call (Value.builtin _) [Value.ref _]) _ _ _); k_dflt (refine' len_lst ?zwN ?zwm ?zwz ?_; (case zwN => k_asm); (case zwm => k_mem); (case zwz => assumption)); intro _ _)
  k_with "compareOp Eq ref ref" => refine Stop.mk ?_
  k_with "getMethod ref" => (k_here; (with_reducible show wpAny _ _ (getMethod (Value.ref _) (Str.ofString "get") _) _ _ _); k_dflt (refine' kdl_method (knd := PySem.strKind _ _) PySem.F.slot_dict_get PySem.F.type_dict_get ?zwgm1 ?zwgm2 ?zwgm3 ?_; (case zwgm1 => k_asm); (case zwgm2 => k_mem); (case zwgm3 => assumption)))
  k_with "compareOp NotEq ref ref" => refine Stop.mk ?_
  k_go0
  (all_goals try k_fold)
  have kMark := kstMark
  k_with "call ref" => (k_dflt (refine' SpecN.use (c_drawn _ _ _ _ _ _ _ ?ki ?kl) ?k1 ?k2 ?k3 ?k4 ?k5 ?k6 ?k7 ?k8 ?k9 ?_); (case ki => assumption); (case kl => omega); (case k1 => k_asm); (case k2 => k_asm); (case k3 => k_asm); (case k4 => k_asm); (case k5 => k_asm); (case k6 => exact rfl); (case k7 => assumption); (case k8 => ktr_room); (case k9 => ktr_units); intro r9 tl9 h9 tk9 F9 N9 g9 p9; obtain ⟨aD, vD, dD, kD, rfl, rfl, iD, lD, bD⟩ := p9; (have g8 := g9 _ (List.mem_singleton.mpr rfl)); clear g9; simp only [List.mem_cons, List.not_mem_nil, or_false, forall_eq_or_imp, forall_eq] at g8; obtain ⟨d0, d1, d2, t0, t1, t2, rfl, rfl⟩ := ints3 iD lD; clear lD; simp only [List.mem_cons, List.not_mem_nil, or_false, forall_eq_or_imp, forall_eq] at bD; simp only [List.cons_append, List.nil_append] at N9; (try dsimp only); (try k_fold))
  k_steps
  refine Stop.go ?_
  rename News _ _ _ _ => nL
  refine abs_led nL (Far.cons (by simp only [List.mem_cons, List.not_mem_nil, or_false, forall_eq_or_imp, forall_eq]; exact ⟨Ne.symm g8.1, Ne.symm g8.2.1, Ne.symm g8.2.2.1, Ne.symm g8.2.2.2.1, Ne.symm g8.2.2.2.2⟩) Far.nil) (cells_nd _) ?_
  clear nL g8
  intro rest0 cells0 N0 far0 nd0 mD eH eR eT eS eC
  have cS := List.mem_of_getElem? eS
  have cC := List.mem_of_getElem? eC
  rename World => w
  rename _ = Data.cell (some (Value.int _ _)) => dS
  obtain ⟨sh, tS, dS, hs0, hs1⟩ : ∃ sh tS, _ = Data.cell (some (Value.int sh tS)) ∧ 0 ≤ sh ∧ sh < 9 := ⟨_, _, dS, Int.fmod_nonneg_of_pos _ (by decide), Int.fmod_lt_of_pos _ (by decide)⟩
  k_dflt (refine LCg.CompSrc.ledger (by rfl) (by k_asm) (by k_asm) (by k_mem) (by first | size_fits | exact Nat.le_of_ble_eq_true rfl) ?_)
  intro gT
  refine comp_refs3 (fun i a o => ∃ vs k, o = W.listOf (List.toArray vs) k ∧ IntsAre vs (treeF ([d0, d1, d2].getD i 0))) ?_ far0 ?_ ?_
  · intro rows
    exact .inr ⟨_, by k_mem, rfl, _, rfl⟩
  · rintro i8 rows8 hi8 hl8 v8 I8 oI8 C8 oC8 D8 m8 h8 tk8 E8 hv8 hC8 hx8 F8 N8 off8 ne8
    obtain ⟨n8, t8, e8, rfl⟩ := ints_item iD hv8
    have hn8 : 0 ≤ n8 := by
      have := List.mem_of_getElem? e8
      simp only [List.mem_cons, List.not_mem_nil, or_false] at this
      rcases this with rfl | rfl | rfl
      · exact bD.1.1
      · exact bD.2.1.1
      · exact bD.2.2.1
    k_with "call ref" => (k_dflt (refine' Spec.useL (c_tree _ _ _ _ _ _ hn8) ?k1 ?k2 ?k3 ?k4 ?k5 ?k6 ?k7 ?k8 ?k9 ?_; (case k1 => k_asm); (case k2 => k_asm); (case k3 => k_asm); (case k4 => k_asm); (case k5 => k_asm); (case k6 => exact rfl); (case k7 => exact trivial); (case k8 => ktr_room); (case k9 => ktr_units); intro aT vT kT h9 tk9 F9 N9 l9 iT; (try dsimp only); (try k_fold)))
    k_steps
    rename News _ _ _ _ => nE
    exact ref_end (by assumption) nE (by k_mem) (by walk_at "subs") l9 ⟨vT, kT, rfl, by rw [List.getD_eq_getElem?_getD, e8]; exact iT⟩
  · intro Dt a0 o0 a1 o1 a2 o2 rest1 ht tkt Ft Nt far1 mT m0 m1 m2 mO _ q0 q1 q2
    replace mD := mO _ mD
    clear mO far0 N0
    obtain ⟨v0, k0, rfl, i0⟩ := q0
    obtain ⟨v1, k1, rfl, i1⟩ := q1
    obtain ⟨v2, k2, rfl, i2⟩ := q2
    obtain ⟨T0, z0⟩ := tree_ok d0
    obtain ⟨T1, z1⟩ := tree_ok d1
    obtain ⟨T2, z2⟩ := tree_ok d2
    have i0 : IntsAre v0 (treeF d0) := i0
    have i1 : IntsAre v1 (treeF d1) := i1
    have i2 : IntsAre v2 (treeF d2) := i2
    generalize treeF d0 = x0 at i0 T0 z0
    generalize treeF d1 = x1 at i1 T1 z1
    generalize treeF d2 = x2 at i2 T2 z2
    have hT : ∀ (j : Nat) y, [x0, x1, x2][j]? = some y → TreeOk y ∧ y.length ≤ 3 := tree_at T0 T1 T2 z0 z1 z2
    (try dsimp only)
    (try k_fold)
    k_with "storeName" => (k_here; k_dflt (refine' store_cells (k := 2) ?zs1 ?zs2 ?zs3 ?zs4 ?zs5 ?zs6 ?zs7 far1 nd0 ?_; (case zs1 => rfl); (case zs2 => rfl); (case zs3 => rfl); (case zs4 => k_asm); (case zs5 => k_asm); (case zs6 => exact eT); (case zs7 => assumption); k_whole); intro h5 oc5 cells1 d5 F5 N5 far5 nd1 eT1 es1; (replace eH := (es1 0 (by decide)).trans eH); (replace eR := (es1 1 (by decide)).trans eR); (replace eS := (es1 3 (by decide)).trans eS); (replace eC := (es1 4 (by decide)).trans eC); clear far1 es1 cS cC nd0 eT; (have cS := List.mem_of_getElem? eS); (have cC := List.mem_of_getElem? eC); (have cT := List.mem_of_getElem? eT1); (try dsimp only); (try k_fold))
    k_steps
    refine Stop.go ?_
    k_dflt (refine LCg.CompSrc.range (by rfl) (by k_asm) (by k_asm) (by assumption) (by first | decide | rfl) (by first | rfl | decide) (by first | size_fits | exact Nat.le_of_ble_eq_true rfl) ?_)
    intro gR
    refine comp_refs3 (fun i a o => ∃ x, [x0, x1, x2][i]? = some x ∧ DS w o (rowC sh x) ∧ (a == sysModules) = false) (fun _ => trivial) far5 ?_ ?_
    · rintro i8 rows8 hi8 hl8 v8 I8 oI8 C8 oC8 D8 m8 h8 tk8 E8 hv8 hC8 hx8 F8 N8 off8 ne8
      obtain ⟨t8, rfl⟩ := hv8
      refine pickT (d0 := d0) (d1 := d1) (d2 := d2) (t0 := t0) (t1 := t1) (t2 := t2) hi8 m0 m1 m2 i0 i1 i2 hT ?_
      intro aS vS kS xS nS tS eA eN eX mA iS TS
      k_with "call ref" => (first
        | ((with_reducible show wpAny _ _ (call (Value.ref 74) _) _ _ _); k_dflt (refine' Spec.useL (c_num _ _ _ _ (descB (bitsOf xS)) ?ka _ _ xS _ iS TS.1.rg ?kb (tree_perm TS.1).symm (desc_sorted _) 16 15 _ _ _ ?kc ?kd ?ke) ?k1 ?k2 ?k3 ?k4 ?k5 ?k6 ?k7 ?k8 ?k9 ?_; (case ka => exact fun x hx => (mem_desc.mp hx).1); (case kb => exact Nat.le_trans TS.2 (by decide)); (case kc => decide); (case kd => decide); (case ke => decide); (case k1 => k_asm); (case k2 => k_asm); (case k3 => k_asm); (case k4 => k_asm); (case k5 => k_asm); (case k6 => exact rfl); (case k7 => (show _ ∈ _; k_mem)); (case k8 => ktr_room); (case k9 => ktr_units); intro aN vN kN h9 tk9 F9 N9 l9 iN; (try dsimp only); (try k_fold)))
        | ((with_reducible show wpAny _ _ (call (Value.ref 88) _) _ _ _); k_dflt (refine' Spec0.useD (c_told _ _ _ _ _ _ _ _ sh _ iN (told_tree TS.1 hs0 hs1 _).2.1 (told_tree TS.1 hs0 hs1 _).2.2 hs0 hs1 _ _ (told_tree TS.1 hs0 hs1 _).1) ?k1 ?k2 ?k3 ?k4 ?k5 ?k6 ?k7 ?k8 ?k9 ?_; (case k1 => k_asm); (case k2 => k_asm); (case k3 => k_asm); (case k4 => k_asm); (case k5 => k_asm); (case k6 => exact rfl); (case k7 => (show _ ∈ _; k_mem)); (case k8 => ktr_room); (case k9 => ktr_units); intro aR oR h9 tk9 F9 N9 l7 loR dR; (try dsimp only); (try k_fold))))
      k_steps
      rename News _ _ _ _ => nE
      exact ref_end (by assumption) nE (by k_mem) (by walk_at "subs") (fun q hq => l7 q (.tail _ hq)) ⟨xS, eX, dR, loR⟩
    · intro Dr r0 o0 r1 o1 r2 o2 rest2 hr tkr Fr' Nr far2 mR n0 n1 n2 mO _ q0 q1 q2
      replace m0 := mO _ m0
      replace m1 := mO _ m1
      replace m2 := mO _ m2
      replace mD := mO _ mD
      replace mT := mO _ mT
      clear mO far5
      have dr0 : DS w o0 (rowC sh x0) := by obtain ⟨_, e, d, _⟩ := q0; cases e; exact d
      have dr1 : DS w o1 (rowC sh x1) := by obtain ⟨_, e, d, _⟩ := q1; cases e; exact d
      have dr2 : DS w o2 (rowC sh x2) := by obtain ⟨_, e, d, _⟩ := q2; cases e; exact d
      have lr0 : (r0 == sysModules) = false := by obtain ⟨_, _, _, d⟩ := q0; exact d
      have lr1 : (r1 == sysModules) = false := by obtain ⟨_, _, _, d⟩ := q1; exact d
      have lr2 : (r2 == sysModules) = false := by obtain ⟨_, _, _, d⟩ := q2; exact d
      clear q0 q1 q2
      (try dsimp only)
      (try k_fold)
      k_with "storeName" => (k_here; k_dflt (refine' store_cells (k := 1) ?zs1 ?zs2 ?zs3 ?zs4 ?zs5 ?zs6 ?zs7 far2 nd1 ?_; (case zs1 => rfl); (case zs2 => rfl); (case zs3 => rfl); (case zs4 => k_asm); (case zs5 => k_asm); (case zs6 => exact eR); (case zs7 => assumption); k_whole); intro h6 oc6 cells2 d6 F6 N6 far6 nd2 eR1 es1; (replace eH := (es1 0 (by decide)).trans eH); (replace eT1 := (es1 2 (by decide)).trans eT1); (replace eS := (es1 3 (by decide)).trans eS); (replace eC := (es1 4 (by decide)).trans eC); clear far2 es1 cS cC cT nd1 eR; (have cS := List.mem_of_getElem? eS); (have cC := List.mem_of_getElem? eC); (have cT := List.mem_of_getElem? eT1); (have cR := List.mem_of_getElem? eR1); (try dsimp only); (try k_fold))
      k_steps
      refine Stop.go ?_
      k_dflt (refine LCg.CompSrc.ledger (by rfl) (by k_asm) (by k_asm) (by k_mem) (by first | size_fits | exact Nat.le_of_ble_eq_true rfl) ?_)
      intro gN
      refine comp_refs3 (fun i a o => ∃ x, [x0, x1, x2][i]? = some x ∧ DS w o (namedF sh x) ∧ (a == sysModules) = false) ?_ far6 ?_ ?_
      · intro rows
        exact .inr ⟨_, by k_mem, rfl, _, rfl⟩
      · rintro i8 rows8 hi8 hl8 v8 I8 oI8 C8 oC8 D8 m8 h8 tk8 E8 hv8 hC8 hx8 F8 N8 off8 ne8
        refine pickT (d0 := d0) (d1 := d1) (d2 := d2) (t0 := t0) (t1 := t1) (t2 := t2) hi8 m0 m1 m2 i0 i1 i2 hT ?_
        intro aS vS kS xS nS tS eA eN eX mA iS TS
        replace hx8 := hx8.trans (hv8.symm.trans eA)
        clear hv8
        k_with "call ref" => ((with_reducible show wpAny _ _ (call (Value.ref 93) _) _ _ _); k_dflt (refine' Spec.useD (c_named _ _ _ _ _ _ xS _ sh _ iS TS.1.rg (Nat.le_trans TS.2 (by decide)) hs0 hs1) ?k1 ?k2 ?k3 ?k4 ?k5 ?k6 ?k7 ?k8 ?k9 ?_; (case k1 => k_asm); (case k2 => k_asm); (case k3 => k_asm); (case k4 => k_asm); (case k5 => k_asm); (case k6 => exact rfl); (case k7 => (show _ ∈ _; k_mem)); (case k8 => ktr_room); (case k9 => ktr_units); intro aR oR h9 tk9 F9 N9 l9 loR dR; (try dsimp only); (try k_fold)))
        k_steps
        rename News _ _ _ _ => nE
        exact ref_end (by assumption) nE (by k_mem) (by walk_at "subs") l9 ⟨xS, eX, dR, loR⟩
      · intro Dn q0 u0 q1 u1 q2 u2 rest2' hn tkn Fn Nn farn mN w0 w1 w2 mO ne g0 g1 g2
        have du0 : DS w u0 (namedF sh x0) := by obtain ⟨_, e, d, _⟩ := g0; cases e; exact d
        have du1 : DS w u1 (namedF sh x1) := by obtain ⟨_, e, d, _⟩ := g1; cases e; exact d
        have du2 : DS w u2 (namedF sh x2) := by obtain ⟨_, e, d, _⟩ := g2; cases e; exact d
        have lu0 : (q0 == sysModules) = false := by obtain ⟨_, _, _, d⟩ := g0; exact d
        have lu1 : (q1 == sysModules) = false := by obtain ⟨_, _, _, d⟩ := g1; exact d
        have lu2 : (q2 == sysModules) = false := by obtain ⟨_, _, _, d⟩ := g2; exact d
        clear g0 g1 g2
        have mR' := List.mem_append_left cells2 (mO _ mR)
        have n0' := List.mem_append_left cells2 (mO _ n0)
        have n1' := List.mem_append_left cells2 (mO _ n1)
        have n2' := List.mem_append_left cells2 (mO _ n2)
        have ne0 : r0 ≠ q0 := Ne.symm (ne _ n0).1
        have ne1 : r1 ≠ q1 := Ne.symm (ne _ n1).2.1
        have ne2 : r2 ≠ q2 := Ne.symm (ne _ n2).2.2
        (try dsimp only)
        (try k_fold)
        k_with "storeName" => fail
        k_steps
        refine Stop.go ?_
        k_dflt (refine ne3 Nn mR' (List.mem_append_left _ mN) n0' n1' n2' (List.mem_append_left _ w0) (List.mem_append_left _ w1) (List.mem_append_left _ w2) ne0 ne1 ne2 lr0 lr1 lr2 lu0 lu1 lu2 dr0 dr1 dr2 du0 du1 du2 (row_agree hs0 hs1 T0) (row_agree hs0 hs1 T1) (row_agree hs0 hs1 T2) (by units_room) ?_)
        have Nk := news_pick (l := rest2 ++ cells2) Nn (fun p hp => (List.mem_append.mp hp).elim (fun h => List.mem_append_left _ (mO p h)) fun h => List.mem_append_right _ h)
        clear Nn farn mN w0 w1 w2 mO ne ne0 ne1 ne2 du0 du1 du2 lu0 lu1 lu2 mR' n0' n1' n2'
        k_with "call ref" => ((with_reducible show wpAny _ _ (call (Value.ref 100) _) _ _ _); k_dflt (refine' Spec.useD (c_held _ _ _ _ _ [Value.ref r0, Value.ref r1, Value.ref r2] _ [rowC sh x0, rowC sh x1, rowC sh x2] [(r0, o0), (r1, o1), (r2, o2)] rfl (Nat.le_refl 3) ?kb rfl) ?k1 ?k2 ?k3 ?k4 ?k5 ?k6 ?k7 ?k8 ?k9 ?_; (case kb => exact held_arg dr0 dr1 dr2 lr0 lr1 lr2 (row_len hs0 hs1 T0 z0) (row_len hs0 hs1 T1 z1) (row_len hs0 hs1 T2 z2)); (case k1 => k_asm); (case k2 => k_asm); (case k3 => k_asm); (case k4 => k_asm); (case k5 => k_asm); (case k6 => exact rfl); (case k7 => exact ⟨by k_mem, List.forall_mem_cons.mpr ⟨List.mem_append_left _ n0, List.forall_mem_cons.mpr ⟨List.mem_append_left _ n1, List.forall_mem_cons.mpr ⟨List.mem_append_left _ n2, List.forall_mem_nil _⟩⟩⟩⟩); (case k8 => ktr_room); (case k9 => ktr_units); intro aH oH h9 tk9 F9 N9 l9 loH dH; refine stage1C N9 l9 far6 ?_; clear N9 l9 far6; intro rest3 N3 far3 mH mO; (replace m0 := mO _ m0); (replace m1 := mO _ m1); (replace m2 := mO _ m2); (replace mD := mO _ mD); (replace mT := mO _ mT); (replace mR := mO _ mR); (replace n0 := mO _ n0); (replace n1 := mO _ n1); (replace n2 := mO _ n2); clear mO; (try dsimp only); (try k_fold)))
        k_with "storeName" => (k_here; k_dflt (refine' store_cells (k := 0) ?zs1 ?zs2 ?zs3 ?zs4 ?zs5 ?zs6 ?zs7 far3 nd2 ?_; (case zs1 => rfl); (case zs2 => rfl); (case zs3 => rfl); (case zs4 => k_asm); (case zs5 => k_asm); (case zs6 => exact eH); (case zs7 => assumption); k_whole); intro h7 oc7 cells3 d7 F7 N7 far7 nd3 eH1 es1; (replace eR1 := (es1 1 (by decide)).trans eR1); (replace eT1 := (es1 2 (by decide)).trans eT1); (replace eS := (es1 3 (by decide)).trans eS); (replace eC := (es1 4 (by decide)).trans eC); clear far3 es1 cS cC cT cR nd2 eH; (have cS := List.mem_of_getElem? eS); (have cC := List.mem_of_getElem? eC); (have cT := List.mem_of_getElem? eT1); (have cR := List.mem_of_getElem? eR1); (have cH := List.mem_of_getElem? eH1); clear eS eC eT1 eR1 eH1 nd3; (try dsimp only); (try k_fold))
        k_with "exec Assign cons ListComp" => (k_dflt (refine' Assign_ListComp_TD (F₀ := ?q0) ?q1 ?q2 ?q3 ?q4 ?q5 ?q6 ?q7 ?q8 ?q9 ?_ ?q11; (case q0 => k_asm); (case q1 => rfl); (case q2 => with_unfolding_all rfl); (case q3 => with_unfolding_all rfl); (case q4 => decide); (case q5 => rfl); (case q6 => decide); (case q7 => rfl); (case q8 => rfl); (case q9 => rfl); (case q11 => intro _; rfl)))
        k_steps
        refine ds_use dr0 ?_
        intro ka0 da0 fa0
        refine ds_use dr1 ?_
        intro ka1 da1 fa1
        refine ds_use dH ?_
        intro kah dah fah
        have hch : heldF [rowC sh x0, rowC sh x1, rowC sh x2] = heldC sh x0 x1 x2 := rfl
        rw [hch] at fah
        generalize hc0 : rowC sh x0 = c0 at da0 fa0
        generalize hc1 : rowC sh x1 = c1 at da1 fa1
        generalize hchh : heldC sh x0 x1 x2 = ch at dah fah
        have hlh : ch.length ≤ 16 := hchh ▸ held_len hs0 hs1 T0 T1 T2 z0 z1 z2
        have flh := flat_len fah
        k_dflt (refine SrcTD.dict (by rfl) (by k_asm) (by k_asm) (by k_mem) dah loH (by rw [sizeLine_eq, flh]; omega) ?_)
        intro gM
        refine compT_fix (fun i ys => IntsAre ys ((((keysF ch).take i).filter fun y => decide (1 < kdpLook ch y 0)).map fun y => kdpLook c0 y (kdpLook c1 y 0))) .nil ?_ ?_
        · rintro i9 ys9 hi9 hJ9 v9 I9 oI9 C9 oC9 D9 m9 h9 tk9 E9 ⟨y9, t9, w9, hk9, rfl⟩ hC9 hx9 F9 N9 off9 ne9
          have ky9 := keys_at (w := w) fah ⟨w9, hk9⟩
          have kh9 := keys_has (List.mem_of_getElem? ky9)
          k_steps
          · rename News _ _ _ _ => nE
            rename kdpLook ch y9 0 > 1 => hb9
            refine comp_end (by assumption) nE (by walk_at "sub") off9 (by k_mem) ?_
            show IntsAre _ _
            rw [take_snoc ky9, List.filter_append, List.map_append, List.filter_cons, if_pos (decide_eq_true hb9)]
            exact hJ9.append (.cons _ _ .nil)
          · rename News _ _ _ _ => nE
            rename ¬ kdpLook ch y9 0 > 1 => hb9
            refine comp_end (by assumption) nE (by walk_at "sub") off9 (by k_mem) ?_
            show IntsAre _ _
            rw [take_snoc ky9, List.filter_append, List.map_append, List.filter_cons, if_neg (fun h => hb9 (of_decide_eq_true h)), List.filter_nil, List.map_nil, List.append_nil]
            exact hJ9
        · intro ysM hJM
          have hLM : IntsAre ysM (mostL sh x0 x1 x2) := by
            rw [List.take_of_length_le (by rw [keys_len, flh]; exact Nat.le_refl _)] at hJM
            subst hc0 hc1 hchh
            exact hJM
          clear hJM da0 fa0 da1 fa1 dah fah hc0 hc1 hchh hlh flh hch
          have TM := most_ok hs0 hs1 T0 T1 T2
          have zM := tree_len TM
          generalize hxM : mostL sh x0 x1 x2 = xM at hLM TM zM
          unfold LCg.FinA
          intro Dm hm tkm Fm Nm om
          refine stageC Nm om far7 ?_
          clear Nm om far7
          intro rest4 N4 far4 mM mO
          replace m0 := mO _ m0
          replace m1 := mO _ m1
          replace m2 := mO _ m2
          replace mD := mO _ mD
          replace mT := mO _ mT
          replace mR := mO _ mR
          replace n0 := mO _ n0
          replace n1 := mO _ n1
          replace n2 := mO _ n2
          replace mH := mO _ mH
          clear mO
          (try dsimp only)
          (try k_fold)
          k_with "storeName" => fail
          k_with "exec Assign cons ListComp" => fail
          k_with "call ref" => (first
            | ((with_reducible show wpAny _ _ (call (Value.ref 74) _) _ _ _); k_dflt (refine' Spec.useL (c_num _ _ _ _ (descB (bitsOf xM)) ?ka _ _ xM _ hLM TM.rg ?kb (tree_perm TM).symm (desc_sorted _) 16 15 _ _ _ ?kc ?kd ?ke) ?k1 ?k2 ?k3 ?k4 ?k5 ?k6 ?k7 ?k8 ?k9 ?_; (case ka => exact fun x hx => (mem_desc.mp hx).1); (case kb => exact Nat.le_trans zM (by decide)); (case kc => decide); (case kd => decide); (case ke => decide); (case k1 => k_asm); (case k2 => k_asm); (case k3 => k_asm); (case k4 => k_asm); (case k5 => k_asm); (case k6 => exact rfl); (case k7 => (show _ ∈ _; k_mem)); (case k8 => ktr_room); (case k9 => ktr_units); intro aN vN kN h9 tk9 F9 N9 l9 iN; (try dsimp only); (try k_fold)))
            | ((with_reducible show wpAny _ _ (call (Value.ref 88) _) _ _ _); k_dflt (refine' Spec0.useD (c_told _ _ _ _ _ _ _ _ sh _ iN (told_tree TM hs0 hs1 _).2.1 (told_tree TM hs0 hs1 _).2.2 hs0 hs1 _ _ (told_tree TM hs0 hs1 _).1) ?k1 ?k2 ?k3 ?k4 ?k5 ?k6 ?k7 ?k8 ?k9 ?_; (case k1 => k_asm); (case k2 => k_asm); (case k3 => k_asm); (case k4 => k_asm); (case k5 => k_asm); (case k6 => exact rfl); (case k7 => (show _ ∈ _; k_mem)); (case k8 => ktr_room); (case k9 => ktr_units); intro aK oK h9 tk9 F9 N9 l7 loK dK; refine stage1C (news_pick N9 drop_second) (fun q hq => l7 q (.tail _ hq)) far4 ?_; clear N9 l7 l9 far4 iN; intro rest5 N5 far5 mK mO; (replace m0 := mO _ m0); (replace m1 := mO _ m1); (replace m2 := mO _ m2); (replace mT := mO _ mT); (replace mR := mO _ mR); (replace n0 := mO _ n0); (replace n1 := mO _ n1); (replace n2 := mO _ n2); (replace mH := mO _ mH); clear mO mD; (try dsimp only); (try k_fold))))
          k_with "call builtin:sum cons nil" => (k_here; k_dflt (refine' my_sum ?sm1 ?sm2 ?sm3 ?sm4 iD ?_; (case sm1 => k_asm); (case sm2 => k_asm); (case sm3 => rfl); (case sm4 => k_mem)); intro h' tk' t' F' N')
          k_with "exec Assign cons ListComp" => (k_dflt (refine' Assign_ListComp_KT (F₀ := ?q0) ?q1 ?q2 ?q3 ?q4 ?q5 ?q6 ?q7 ?q8 ?q9 ?q10 ?_ ?q12; (case q0 => k_asm); (case q1 => rfl); (case q2 => with_unfolding_all rfl); (case q3 => with_unfolding_all rfl); (case q4 => exact fun _ => rfl); (case q5 => exact fun _ => rfl); (case q6 => rfl); (case q7 => decide); (case q8 => exact fun _ _ => rfl); (case q9 => rfl); (case q10 => rfl); (case q12 => intro _; rfl)))
          k_steps
          k_dflt (refine srcRKT_fix 15 (fun i ys => IntsAre ys (dueL x0 x1 x2 i)) (by rfl) (by k_asm) (by k_asm) (by assumption) (by decide) (by rfl) (by first | size_fits | exact Nat.le_of_ble_eq_true rfl) .nil ?_ ?_)
          · rintro i9 ys9 hi9 hJ9 v9 I9 oI9 C9 oC9 K9 oK9 D9 h9 tk9 E9 g9 ⟨t9, rfl⟩ hK9 F9 N9 off9 ne9
            k_with "exec Assign cons ListComp" => fail
            k_steps
            refine Stop.go ?_
            k_dflt (refine LCt.CompSrcT.ledger (by rfl) (by k_asm) (by k_asm) (by k_mem) (by first | size_fits | exact Nat.le_of_ble_eq_true rfl) ?_)
            intro gI
            refine compT_fix (fun i ys => ys.length = (([x0, x1, x2].take i).filter fun t => t.any (· == 1 + (i9 : Int))).length) rfl ?_ ?_
            · rintro i8 ys8 hi8 hJ8 v8 I8 oI8 C8 oC8 D8 m8 h8 tk8 E8 hv8 hC8 hx8 F8 N8 off8 ne8
              refine pickT (d0 := d0) (d1 := d1) (d2 := d2) (t0 := t0) (t1 := t1) (t2 := t2) hi8 m0 m1 m2 i0 i1 i2 hT ?_
              intro aS vS kS xS nS tS eA eN eX mA iS TS
              replace hx8 := hx8.trans (hv8.symm.trans eA)
              clear hv8
              k_steps
              · rename List.any xS _ = true => hb8
                rename News _ _ _ _ => nE
                refine comp_end (by assumption) nE (by walk_at "subs") off8 (.inr ⟨_, by k_mem, rfl, _, rfl⟩) ?_
                show (_ ++ [_]).length = _
                rw [take_snoc eX, List.filter_append, List.length_append, List.length_append, hJ8, List.filter_cons, if_pos hb8]
                rfl
              · rename List.any xS _ = false => hb8
                rename News _ _ _ _ => nE
                refine comp_end (by assumption) nE (by walk_at "subs") off8 (.inr ⟨_, by k_mem, rfl, _, rfl⟩) ?_
                show _ = _
                rw [take_snoc eX, List.filter_append, List.length_append, hJ8, List.filter_cons, if_neg (by rw [hb8]; exact Bool.false_ne_true)]
                rfl
            · intro ysI hJI
              have hJI : ysI.length = ([x0, x1, x2].filter fun t => t.any (· == 1 + (i9 : Int))).length := hJI
              have hcI : (ysI.length : Int) = cnt x0 x1 x2 (1 + (i9 : Int)) := by rw [hJI]; exact cnt_len x0 x1 x2 _
              have hzI : ysI.length ≤ 100 := by
                rw [hJI]
                exact Nat.le_trans (List.length_filter_le _ _) (by show 3 ≤ 100; omega)
              clear hJI
              unfold LCg.FinE
              intro DI hI tkI FI NI oI
              (try dsimp only)
              (try k_fold)
              k_steps
              · rename (ysI.length : Int) > 1 => hb9
                rename News _ _ _ _ => nE
                refine endK_fix (by assumption) nE (by walk_at "subs") off9 trivial ?_
                show IntsAre _ _
                rw [due_succ, if_pos (hcI ▸ hb9)]
                exact hJ9.append (.cons _ _ .nil)
              · rename ¬ (ysI.length : Int) > 1 => hb9
                rename News _ _ _ _ => nE
                refine endK_fix (by assumption) nE (by walk_at "subs") off9 trivial ?_
                show IntsAre _ _
                rw [due_succ, if_neg (hcI ▸ hb9), List.append_nil]
                exact hJ9
          · intro gU ysU hJU
            have rU := due_rg (t0 := x0) (t1 := x1) (t2 := x2)
            have zU := due_len (t0 := x0) (t1 := x1) (t2 := x2)
            have gU2 := due_agree hs0 hs1 T0 T1 T2
            rw [hxM] at gU2
            generalize dueL x0 x1 x2 15 = xU at hJU rU zU gU2
            unfold LCg.FinA
            intro Du hu tku Fu Nu ou
            refine stageC Nu ou far5 ?_
            clear Nu ou far5
            intro rest6 N6 far6 mU mO
            replace m0 := mO _ m0
            replace m1 := mO _ m1
            replace m2 := mO _ m2
            replace mT := mO _ mT
            replace mR := mO _ mR
            replace n0 := mO _ n0
            replace n1 := mO _ n1
            replace n2 := mO _ n2
            replace mH := mO _ mH
            replace mK := mO _ mK
            clear mO
            (try dsimp only)
            (try k_fold)
            k_with "exec Assign cons ListComp" => fail
            k_with "call ref" => ((with_reducible show wpAny _ _ (call (Value.ref 93) _) _ _ _); k_dflt (refine' Spec.useD (c_named _ _ _ _ _ _ xU _ sh _ hJU rU zU hs0 hs1) ?k1 ?k2 ?k3 ?k4 ?k5 ?k6 ?k7 ?k8 ?k9 ?_; (case k1 => k_asm); (case k2 => k_asm); (case k3 => k_asm); (case k4 => k_asm); (case k5 => k_asm); (case k6 => exact rfl); (case k7 => (show _ ∈ _; k_mem)); (case k8 => ktr_room); (case k9 => ktr_units); intro aW oW h9 tk9 F9 N9 l9 loW dW; (try dsimp only); (try k_fold)))
            k_steps
            refine Stop.go ?_
            refine ds_use dK ?_
            intro kk dkk fkk
            refine ds_use dW ?_
            intro kw dkw fkw
            k_dflt (refine eq_dicts (m := fun _ => none) N9 (by k_mem) (by k_mem) loK loW dkk fkk dkw fkw gU2 (Nat.lt_of_le_of_lt (Nat.le_add_right _ 64) (by units_room)) ?_)
            have Nk := news_pick (l := rest6 ++ cells3) N9 (by walk_at "sub")
            clear N9 dkw fkw dkk fkk
            have bf := bet_facts hs0 hs1 T0 T1 T2 z0 z1 z2
            rw [hxM] at bf
            k_with "call ref" => ((with_reducible show wpAny _ _ (call (Value.ref 105) _) _ _ _); k_dflt (refine' Spec.useB (c_between _ _ _ _ Dr Dt aK aH r0 r1 r2 a0 a1 a2 o0 o1 o2 oK oH 3 3 k0 k1 k2 (rowC sh x0) (rowC sh x1) (rowC sh x2) (rowC sh xM) (heldC sh x0 x1 x2) v0 v1 v2 x0 x1 x2 _ _ _ dr0 dr1 dr2 dK dH lr0 lr1 lr2 loK loH i0 i1 i2 z0 z1 z2 (held_len hs0 hs1 T0 T1 T2 z0 z1 z2) (held_nodup hs0 hs1 T0 T1 T2) (loose_len hs0 hs1 T0 T1 T2 z0 z1 z2) bf.1 bf.2.1 bf.2.2.1 bf.2.2.2) ?k1 ?k2 ?k3 ?k4 ?k5 ?k6 ?k7 ?k8 ?k9 ?_; (case k1 => k_asm); (case k2 => k_asm); (case k3 => k_asm); (case k4 => k_asm); (case k5 => k_asm); (case k6 => exact rfl); (case k7 => exact ⟨List.mem_append_left _ mR, List.mem_append_left _ mT, List.mem_append_left _ n0, List.mem_append_left _ n1, List.mem_append_left _ n2, List.mem_append_left _ mK, List.mem_append_left _ mH, List.mem_append_left _ m0, List.mem_append_left _ m1, List.mem_append_left _ m2⟩); (case k8 => ktr_room); (case k9 => ktr_units); intro h9 tk9 F9 N9; (try dsimp only); (try k_fold)))
            repeat' walk1
            clear bf
            k_unfold
            (try dsimp only)
            k_end
            show GoodW _ _ _ _ _ (.ok (.ret (.bool _))) _
            refine goodW_bool (by assumption) (by assumption) (raisesW_false ?_) ?_
            · wrow_none_raised
            · refine postW_of ?_ (post_ok _ _) ?_
              · wrow_shape
              · rfl)
end

end
end Mine
theorem PySem.Challenge.cw_rs0060_01_holds : PySem.Challenge.rw_rs0060_01.Holds :=
  Mine.t1
