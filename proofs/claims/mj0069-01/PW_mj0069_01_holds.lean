import PyProof.Rows.All
import Wide.All
import OpenK.AllK
import Wide.FinOn
import PySem.Challenge.RW_mj0069_01
set_option Elab.async false
set_option linter.all false
section
open PySem PySem.W PyProof.Rows PySem.Calls
namespace Mj
open_top hd for PySem.Challenge.rw_mj0069_01

end Mj
end
section
open PySem PySem.W PyProof.Rows PySem.Calls
namespace Mj
theorem top_off : True := by
  w_top off
  trivial
end Mj
end
section
open PySem PySem.W PyProof.Rows PySem.Calls
namespace Mj
section
variable {prog : Program} {w : World} {A : Around} {s : Shared} {K : Frag} {b₀ : Heap} {news : List (Addr × Obj)} {p : Program} {loose : List Str} {mean : ExcName → Option Value} {mg mb : Str → Option Value} {Q : Value → Shared → Prop} {E : Value → Shared → Prop}

theorem enter {name qual : Str} {params : Arguments} {body : List Stmt} {scope : Scope} {dV kV doc pm cdv ct oc : Value} {an od : Option Addr} {osl : Array (Option Value)} {f : Addr} {args : List Value} {binds : List (Str × Value)}
    (X : K.In b₀) (T : Top p loose mean mg mb b₀) (st : b₀.StaysIn s.heap) (N : ∀ q ∈ news, s.heap.get? q.1 = some q.2 ∧ b₀.get? q.1 = none)
    (ho : K.lookup f = some ⟨oc, od, .func (fnOf name qual params body scope dV kV doc pm an cdv ct), osl⟩) (hcd : codeIn K cdv qual = true) (hroom : A.depth < recursionLimit)
    (hbind : BindsTo s (fnOf name qual params body scope dV kV doc pm an cdv ct) ⟨args, []⟩ binds) (hloc : ∀ y ∈ binds, scope.names.lookup y.1 = some .local)
    (h : ∀ g L' h₁, (∀ b o, s.heap.get? b = some o → b ∉ news.map (fun q => q.1) → g.get? b = some o) → Fr g L' h₁ (fun y => binds.reverse.lookup y) → News g L' h₁ news → K.In g → Top p loose mean mg mb g → (∀ p ∈ news, p.1 < L') →
      wpAny (model prog w) (A.deeper (envOf qual scope L' f cdv)) (execs body (envOf qual scope L' f cdv))
        (fun fl s' => Q (match fl with | .ret v => v | _ => .none) s') (fun _ _ => False) { s with heap := h₁, toks := s.toks + binds.length })
    (hco : scope.isCoroutine = false) (hgen : scope.isGenerator = false) (hk : scope.kind = .function) (hcell : ∀ x ∈ scope.names, x.2 ≠ .cell) :
    wpAny (model prog w) A (call (.ref f) args) Q E s := by
  refine wpAny_call ?_
  have st' : b₀.StaysIn (hideAll s.heap (news.map fun q => q.1)) := fun b o e => hideAll_get _ (st b o e) fun z => by
    obtain ⟨q, hq, rfl⟩ := List.mem_map.mp z
    rw [(N q hq).2] at e; cases e
  refine codeAny_call_def (fd := fnOf name qual params body scope dV kV doc pm an cdv ct) (body := body) (binds := binds) hroom (X.keeps st _ _ ho) rfl (T.nolimit.keeps st) (codeRec_of (X.keeps st) hcd) rfl hbind hcell hloc (fun h₁ hns hk₁ => ?_) hco hgen hk
  refine wpAny_mono (h _ s.heap.objs.size h₁ (fun b o e n => hideAll_get _ e n) ⟨hns, fun b o e => hk₁ b o (of_hideAll _ e), Nat.le_of_eq (hideAll_size _ _)⟩
    (fun q hq => ⟨hk₁ _ _ (N q hq).1, Nat.ne_of_lt (Heap.lt_size (N q hq).1), hideAll_none _ (List.mem_map_of_mem hq)⟩) (X.keeps st') (T.keeps st') (fun q hq => Heap.lt_size (N q hq).1)) (fun fl s' hl => hl) (fun _ _ y => y.elim)
end
end Mj
end
section
open PySem PySem.W PyProof.Rows PySem.Calls
namespace Mj
abbrev tupO (x y : Int) (t u : Tok) (n : Nat) : Obj := { cls := .type "tuple", data := .seq #[.int x t, .int y u] n }
/-- the order of pairs -/
def plt (p q : Int × Int) : Bool := if p.1 = q.1 then decide (p.2 < q.2) else decide (p.1 < q.1)

theorem rc_lt_int {prog : Program} {w : World} {A : Around} {E : Value → Shared → Prop} {s : Shared} {a b : Int} {t u : Tok} {Q : Value → Shared → Prop} (h : Q (.bool (decide (a < b))) s) :
    wpAny (model prog w) A (richCompare .Lt (.int a t) (.int b u)) Q E s := PyProof.Rows.lt_int (prog := prog) (w := w) h
open AutoSeq1 (wpAny_loadPart') in
theorem tuple_ltAt (l b : Addr) (x y x' y' : Int) (t u t' u' : Tok) (n n2 : Nat) :
    Meets (Builtin.«tuple.__lt__» ⟨[.ref l, .ref b], []⟩)
      (fun _ R s => s.heap.get? l = some (tupO x y t u n) ∧ s.heap.get? b = some (tupO x' y' t' u' n2) ∧ R (.ok (.ret (.bool (plt (x, y) (x', y'))))) s) :=
  .of_wp fun prog w A R s h => by
    obtain ⟨hp, g, d, tk, os⟩ := s; obtain ⟨hl, hb, h⟩ := h
    have f2 := AutoSeq1.sub_tuple_tuple
    wp_walk using wpAny_loadPart' hl, wpAny_loadPart' hb, wpAny_eqBool_int
    unfold plt at h
    by_cases hx : x = x'
    · simp only [hx, if_true] at h
      have e1 : (x == x') = true := by simp [hx]
      rw [e1]
      wp_walk using wpAny_eqBool_int
      by_cases hy : y = y'
      · have e2 : (y == y') = true := by simp [hy]
        rw [e2]
        wp_walk
        subst hy
        exact ⟨_, rfl, by simpa [Builtin.Tuple.tupleCompareSizes] using h⟩
      · have e2 : (y == y') = false := by simp [hy]
        rw [e2]
        wp_walk using rc_lt_int
        exact ⟨_, rfl, h⟩
    · have e1 : (x == x') = false := by simp [hx]
      have hx2 : ¬ x' = x := fun e => hx e.symm
      simp only [hx, hx2, if_false] at h
      rw [e1]
      wp_walk using rc_lt_int
      exact ⟨_, rfl, h⟩
theorem pair_lt {prog : Program} {w : World} {A : Around} {E : Value → Shared → Prop} {s : Shared} {Q : Value → Shared → Prop} {a b : Addr} {x y x' y' : Int} {t u t' u' : Tok} {n n2 : Nat}
    (ha : s.heap.get? a = some (tupO x y t u n)) (hb : s.heap.get? b = some (tupO x' y' t' u' n2)) (hu : A.units < cLine) (h : Q (.bool (plt (x, y) (x', y'))) s) :
    wpAny (model prog w) A (compareOp .Lt (.ref a) (.ref b)) Q E s :=
  richCompare_meets_room (op := .Lt) ⟨_, ha, rfl⟩ ⟨_, hb, rfl⟩ F.slot_tuple_lt F.entry_tuple_lt (F.args_tuple_lt_2 _ _) (tuple_ltAt a b x y x' y' t u t' u' n n2)
    ⟨ha, hb, show Value.bool _ ≠ Value.notImplemented ∧ Q (.bool _) s from ⟨(fun x => nomatch x), h⟩⟩ hu

theorem rc_gt_int {prog : Program} {w : World} {A : Around} {E : Value → Shared → Prop} {s : Shared} {a b : Int} {t u : Tok} {Q : Value → Shared → Prop} (h : Q (.bool (decide (b < a))) s) :
    wpAny (model prog w) A (richCompare .Gt (.int a t) (.int b u)) Q E s := PyProof.Rows.gt_int (prog := prog) (w := w) h
open AutoSeq1 (wpAny_loadPart') in
theorem tuple_gtAt (l b : Addr) (x y x' y' : Int) (t u t' u' : Tok) (n n2 : Nat) :
    Meets (Builtin.«tuple.__gt__» ⟨[.ref l, .ref b], []⟩)
      (fun _ R s => s.heap.get? l = some (tupO x y t u n) ∧ s.heap.get? b = some (tupO x' y' t' u' n2) ∧ R (.ok (.ret (.bool (plt (x', y') (x, y))))) s) :=
  .of_wp fun prog w A R s h => by
    obtain ⟨hp, g, d, tk, os⟩ := s; obtain ⟨hl, hb, h⟩ := h
    have f2 := AutoSeq1.sub_tuple_tuple
    wp_walk using wpAny_loadPart' hl, wpAny_loadPart' hb, wpAny_eqBool_int
    unfold plt at h
    by_cases hx : x = x'
    · simp only [hx, if_true] at h
      have e1 : (x == x') = true := by simp [hx]
      rw [e1]
      wp_walk using wpAny_eqBool_int
      by_cases hy : y = y'
      · have e2 : (y == y') = true := by simp [hy]
        rw [e2]
        wp_walk
        subst hy
        exact ⟨_, rfl, by simpa [Builtin.Tuple.tupleCompareSizes] using h⟩
      · have e2 : (y == y') = false := by simp [hy]
        rw [e2]
        wp_walk using rc_gt_int
        exact ⟨_, rfl, h⟩
    · have e1 : (x == x') = false := by simp [hx]
      have hx2 : ¬ x' = x := fun e => hx e.symm
      simp only [hx, hx2, if_false] at h
      rw [e1]
      wp_walk using rc_gt_int
      exact ⟨_, rfl, h⟩
theorem pair_gt {prog : Program} {w : World} {A : Around} {E : Value → Shared → Prop} {s : Shared} {Q : Value → Shared → Prop} {a b : Addr} {x y x' y' : Int} {t u t' u' : Tok} {n n2 : Nat}
    (ha : s.heap.get? a = some (tupO x y t u n)) (hb : s.heap.get? b = some (tupO x' y' t' u' n2)) (hu : A.units < cLine) (h : Q (.bool (plt (x', y') (x, y))) s) :
    wpAny (model prog w) A (compareOp .Gt (.ref a) (.ref b)) Q E s :=
  richCompare_meets_room (op := .Gt) ⟨_, ha, rfl⟩ ⟨_, hb, rfl⟩ F.slot_tuple_gt F.entry_tuple_gt (F.args_tuple_gt_2 _ _) (tuple_gtAt a b x y x' y' t u t' u' n n2)
    ⟨ha, hb, show Value.bool _ ≠ Value.notImplemented ∧ Q (.bool _) s from ⟨(fun x => nomatch x), h⟩⟩ hu
end Mj
end
section
open PySem PySem.W PyProof.Rows PySem.Calls
namespace Mj
theorem fill_k : PySem.Challenge.rw_mj0069_01 = PySem.Challenge.rw_mj0069_01 ∧ hd.heap_39 = hd.heap_39 := by
  k_fill
  exact ⟨rfl, rfl⟩
theorem ne_of_tup {h : Heap} {l a : Addr} {its : Array Value} {n k : Nat} {x y : Int} {t u : Tok} (hl : h.get? l = some (listOf its n)) (ha : h.get? a = some (tupO x y t u k)) : a ≠ l := by
  intro q; subst q; rw [hl] at ha
  have e := congrArg Obj.cls (Option.some.inj ha)
  exact absurd e (by show ¬ (Value.type "list" = Value.type "tuple"); decide)
theorem news_one {h b₀ : Heap} {l : Addr} {o : Obj} (h1 : h.get? l = some o) (h2 : b₀.get? l = none) : ∀ q ∈ [(l, o)], h.get? q.1 = some q.2 ∧ b₀.get? q.1 = none := by
  intro q hq; rw [List.mem_singleton.mp hq]; exact ⟨h1, h2⟩
theorem keeps_one {s : Shared} {g h' : Heap} {L : Addr} {m : Str → Option Value} {l : Addr} {o : Obj} (hg : ∀ b o', s.heap.get? b = some o' → b ∉ [(l, o)].map (fun q => q.1) → g.get? b = some o') (F : Fr g L h' m) : ∀ b o', b ≠ l → s.heap.get? b = some o' → h'.get? b = some o' :=
  fun b o' hb e => F.keep b o' (hg b o' e (by simpa using hb))
/-- after a call that turns one object of the ledger alone -/
theorem fr_but {g h h' : Heap} {L l : Addr} {m : Str → Option Value} (F : Fr g L h m) (hl : g.get? l = none) (hne : l ≠ L) (k : ∀ b o, b ≠ l → h.get? b = some o → h'.get? b = some o) : Fr g L h' m :=
  ⟨F.ns.at' fun o e => k _ o (Ne.symm hne) e, fun b o e => k b o (fun q => by rw [q, hl] at e; cases e) (F.keep b o e), F.above⟩
theorem news_but {g h h' : Heap} {L l : Addr} {news : List (Addr × Obj)} (N : News g L h news) (hn : ∀ p ∈ news, p.1 ≠ l) (k : ∀ b o, b ≠ l → h.get? b = some o → h'.get? b = some o) : News g L h' news :=
  fun p hp => ⟨k _ _ (hn p hp) (N p hp).1, (N p hp).2⟩
theorem news_new {g h h' : Heap} {L l : Addr} {o o' : Obj} {pre post : List (Addr × Obj)} (N : News g L h (pre ++ (l, o) :: post)) (h1 : ∀ p ∈ pre, p.1 ≠ l) (h2 : ∀ p ∈ post, p.1 ≠ l) (k : ∀ b o, b ≠ l → h.get? b = some o → h'.get? b = some o) (e : h'.get? l = some o') : News g L h' (pre ++ (l, o') :: post) := by
  intro p hp
  rcases List.mem_append.mp hp with q | q
  · have := N p (List.mem_append.mpr (.inl q)); exact ⟨k _ _ (h1 p q) this.1, this.2⟩
  · rcases List.mem_cons.mp q with rfl | q
    · have := N (l, o) (List.mem_append.mpr (.inr (.head _))); exact ⟨e, this.2⟩
    · have := N p (List.mem_append.mpr (.inr (.tail _ q))); exact ⟨k _ _ (h2 p q) this.1, this.2⟩
theorem back_one {G : Prop} {g h h' : Heap} {L l : Addr} {m : Str → Option Value} {o o' : Obj} {news news' : List (Addr × Obj)} (F : Fr g L h m) (N : News g L h news) (U : Upd l o o' news news') (k : ∀ b o, b ≠ l → h.get? b = some o → h'.get? b = some o) (e : h'.get? l = some o')
    (c : Fr g L h' m → News g L h' news' → G) : G := by
  obtain ⟨pre, post, rfl, rfl, a, b⟩ := U.split
  have D := N (l, o) (by simp)
  exact c (fr_but F D.2.2 D.2.1 k) (news_new N a b k e)
local macro_rules | `(tactic| walk_at "compareOp Lt ref ref") => `(tactic| (k_here; k_dflt (refine' pair_lt ?pa ?pb ?pu ?_; (case pa => exact Fr.keep (by k_asm) _ _ (by k_asm)); (case pb => exact Fr.keep (by k_asm) _ _ (by k_asm)); (case pu => ((try simp only [units_in1, units_deeper, Around.mark_units]); omega)); k_whole)))

section
variable {prog : Program} {w : World} {s : Shared} {b₀ : Heap} {p : Program} {loose : List Str} {mean : ExcName → Option Value} {mg mb : Str → Option Value} {Q : Value → Shared → Prop} {E : Value → Shared → Prop}
  {dp un : Nat} {fr : Option (List Env)} {gd : Option (List Code)}
set_option maxRecDepth 100000 in
set_option maxHeartbeats 8000000 in
theorem siftdown_10 {l a0 : Addr} {x0 y0 : Int} {t0 u0 : Tok} {n n0 : Nat} {t t' : Tok}
    (X : (hd.heap_39 w.params).In b₀) (T : Top p loose mean mg mb b₀) (st : b₀.StaysIn s.heap) (hl : s.heap.get? l = some (listOf #[.ref a0] n)) (hl0 : b₀.get? l = none)
    (P0 : s.heap.get? a0 = some (tupO x0 y0 t0 u0 n0))
    (hd : dp + 10 < recursionLimit) (hu : un + 100 < cLine)
    (h : ∀ h' tk n', (∀ b o, b ≠ l → s.heap.get? b = some o → h'.get? b = some o) → h'.get? l = some (listOf #[.ref a0] n') → Q .none { s with heap := h', toks := tk }) :
    wpAny (model prog w) ⟨none, dp, fr, gd, un⟩ (call (.ref 28) [.ref l, .int 0 t, .int 0 t']) Q E s := by
  refine' enter (news := [(l, listOf #[.ref a0] n)]) X T st (news_one hl hl0) ?ho ?hcd ?room ?hbind ?hloc ?_ ?c2 ?c3 ?c4 ?c5
  case ho => k_is
  case hcd => k_is
  case room => show dp < _; omega
  case hbind => exact BindsTo.of_eq rfl
  case hloc => exact locs rfl
  case c5 => decide
  case c2 => rfl
  case c3 => rfl
  case c4 => rfl
  intro g L' h' hg F' N' X' T' l1
  have P0' := hg _ _ P0 (by simpa using ne_of_tup hl P0)
  have hl1 : l < L' := l1 _ (.head _)
  clear l1 st hl hl0 X T P0
  try dsimp only
  k_steps
  all_goals (refine' h _ _ _ ?k ?e; (case k => exact keeps_one hg (by k_asm)); (case e => ((repeat (first | rw [if_pos (by assumption)] | rw [if_neg (by simp only [Bool.not_eq_true]; assumption)])); exact News.get (by k_asm) (by k_mem))))
set_option maxRecDepth 100000 in
set_option maxHeartbeats 8000000 in
theorem siftdown_21 {l a0 a1 : Addr} {x0 y0 x1 y1 : Int} {t0 u0 t1 u1 : Tok} {n n0 n1 : Nat} {t t' : Tok}
    (X : (hd.heap_39 w.params).In b₀) (T : Top p loose mean mg mb b₀) (st : b₀.StaysIn s.heap) (hl : s.heap.get? l = some (listOf #[.ref a0, .ref a1] n)) (hl0 : b₀.get? l = none)
    (P0 : s.heap.get? a0 = some (tupO x0 y0 t0 u0 n0)) (P1 : s.heap.get? a1 = some (tupO x1 y1 t1 u1 n1))
    (hd : dp + 10 < recursionLimit) (hu : un + 100 < cLine)
    (h : ∀ h' tk n', (∀ b o, b ≠ l → s.heap.get? b = some o → h'.get? b = some o) → h'.get? l = some (listOf (if plt (x1, y1) (x0, y0) then #[.ref a1, .ref a0] else #[.ref a0, .ref a1]) n') → Q .none { s with heap := h', toks := tk }) :
    wpAny (model prog w) ⟨none, dp, fr, gd, un⟩ (call (.ref 28) [.ref l, .int 0 t, .int 1 t']) Q E s := by
  refine' enter (news := [(l, listOf #[.ref a0, .ref a1] n)]) X T st (news_one hl hl0) ?ho ?hcd ?room ?hbind ?hloc ?_ ?c2 ?c3 ?c4 ?c5
  case ho => k_is
  case hcd => k_is
  case room => show dp < _; omega
  case hbind => exact BindsTo.of_eq rfl
  case hloc => exact locs rfl
  case c5 => decide
  case c2 => rfl
  case c3 => rfl
  case c4 => rfl
  intro g L' h' hg F' N' X' T' l1
  have P0' := hg _ _ P0 (by simpa using ne_of_tup hl P0)
  have P1' := hg _ _ P1 (by simpa using ne_of_tup hl P1)
  have hl1 : l < L' := l1 _ (.head _)
  clear l1 st hl hl0 X T P0 P1
  try dsimp only
  k_steps
  all_goals (refine' h _ _ _ ?k ?e; (case k => exact keeps_one hg (by k_asm)); (case e => ((repeat (first | rw [if_pos (by assumption)] | rw [if_neg (by simp only [Bool.not_eq_true]; assumption)])); exact News.get (by k_asm) (by k_mem))))
set_option maxRecDepth 100000 in
set_option maxHeartbeats 8000000 in
theorem siftdown_31 {l a0 a1 a2 : Addr} {x0 y0 x1 y1 x2 y2 : Int} {t0 u0 t1 u1 t2 u2 : Tok} {n n0 n1 n2 : Nat} {t t' : Tok}
    (X : (hd.heap_39 w.params).In b₀) (T : Top p loose mean mg mb b₀) (st : b₀.StaysIn s.heap) (hl : s.heap.get? l = some (listOf #[.ref a0, .ref a1, .ref a2] n)) (hl0 : b₀.get? l = none)
    (P0 : s.heap.get? a0 = some (tupO x0 y0 t0 u0 n0)) (P1 : s.heap.get? a1 = some (tupO x1 y1 t1 u1 n1)) (P2 : s.heap.get? a2 = some (tupO x2 y2 t2 u2 n2))
    (hd : dp + 10 < recursionLimit) (hu : un + 100 < cLine)
    (h : ∀ h' tk n', (∀ b o, b ≠ l → s.heap.get? b = some o → h'.get? b = some o) → h'.get? l = some (listOf (if plt (x1, y1) (x0, y0) then #[.ref a1, .ref a0, .ref a2] else #[.ref a0, .ref a1, .ref a2]) n') → Q .none { s with heap := h', toks := tk }) :
    wpAny (model prog w) ⟨none, dp, fr, gd, un⟩ (call (.ref 28) [.ref l, .int 0 t, .int 1 t']) Q E s := by
  refine' enter (news := [(l, listOf #[.ref a0, .ref a1, .ref a2] n)]) X T st (news_one hl hl0) ?ho ?hcd ?room ?hbind ?hloc ?_ ?c2 ?c3 ?c4 ?c5
  case ho => k_is
  case hcd => k_is
  case room => show dp < _; omega
  case hbind => exact BindsTo.of_eq rfl
  case hloc => exact locs rfl
  case c5 => decide
  case c2 => rfl
  case c3 => rfl
  case c4 => rfl
  intro g L' h' hg F' N' X' T' l1
  have P0' := hg _ _ P0 (by simpa using ne_of_tup hl P0)
  have P1' := hg _ _ P1 (by simpa using ne_of_tup hl P1)
  have P2' := hg _ _ P2 (by simpa using ne_of_tup hl P2)
  have hl1 : l < L' := l1 _ (.head _)
  clear l1 st hl hl0 X T P0 P1 P2
  try dsimp only
  k_steps
  all_goals (refine' h _ _ _ ?k ?e; (case k => exact keeps_one hg (by k_asm)); (case e => ((repeat (first | rw [if_pos (by assumption)] | rw [if_neg (by simp only [Bool.not_eq_true]; assumption)])); exact News.get (by k_asm) (by k_mem))))
set_option maxRecDepth 100000 in
set_option maxHeartbeats 8000000 in
theorem siftdown_32 {l a0 a1 a2 : Addr} {x0 y0 x1 y1 x2 y2 : Int} {t0 u0 t1 u1 t2 u2 : Tok} {n n0 n1 n2 : Nat} {t t' : Tok}
    (X : (hd.heap_39 w.params).In b₀) (T : Top p loose mean mg mb b₀) (st : b₀.StaysIn s.heap) (hl : s.heap.get? l = some (listOf #[.ref a0, .ref a1, .ref a2] n)) (hl0 : b₀.get? l = none)
    (P0 : s.heap.get? a0 = some (tupO x0 y0 t0 u0 n0)) (P1 : s.heap.get? a1 = some (tupO x1 y1 t1 u1 n1)) (P2 : s.heap.get? a2 = some (tupO x2 y2 t2 u2 n2))
    (hd : dp + 10 < recursionLimit) (hu : un + 100 < cLine)
    (h : ∀ h' tk n', (∀ b o, b ≠ l → s.heap.get? b = some o → h'.get? b = some o) → h'.get? l = some (listOf (if plt (x2, y2) (x0, y0) then #[.ref a2, .ref a1, .ref a0] else #[.ref a0, .ref a1, .ref a2]) n') → Q .none { s with heap := h', toks := tk }) :
    wpAny (model prog w) ⟨none, dp, fr, gd, un⟩ (call (.ref 28) [.ref l, .int 0 t, .int 2 t']) Q E s := by
  refine' enter (news := [(l, listOf #[.ref a0, .ref a1, .ref a2] n)]) X T st (news_one hl hl0) ?ho ?hcd ?room ?hbind ?hloc ?_ ?c2 ?c3 ?c4 ?c5
  case ho => k_is
  case hcd => k_is
  case room => show dp < _; omega
  case hbind => exact BindsTo.of_eq rfl
  case hloc => exact locs rfl
  case c5 => decide
  case c2 => rfl
  case c3 => rfl
  case c4 => rfl
  intro g L' h' hg F' N' X' T' l1
  have P0' := hg _ _ P0 (by simpa using ne_of_tup hl P0)
  have P1' := hg _ _ P1 (by simpa using ne_of_tup hl P1)
  have P2' := hg _ _ P2 (by simpa using ne_of_tup hl P2)
  have hl1 : l < L' := l1 _ (.head _)
  clear l1 st hl hl0 X T P0 P1 P2
  try dsimp only
  k_steps
  all_goals (refine' h _ _ _ ?k ?e; (case k => exact keeps_one hg (by k_asm)); (case e => ((repeat (first | rw [if_pos (by assumption)] | rw [if_neg (by simp only [Bool.not_eq_true]; assumption)])); exact News.get (by k_asm) (by k_mem))))
local macro_rules | `(tactic| walk_at "call ref") => `(tactic| (k_here; k_dflt (first | (refine' siftdown_10 ?X ?T ?st ?hl ?hl0 ?P0 ?hd ?hu ?_; (case X => k_asm); (case T => k_asm); (case st => exact Fr.keep (by k_asm)); (case hl => exact News.get (by k_asm) (by k_mem)); (case hl0 => exact News.fresh (by k_asm) (by k_mem)); (case P0 => exact Fr.keep (by k_asm) _ _ (by k_asm)); (case hd => ((try simp only [depth_under_make, depth_under_kw, depth_in1, depth_deeper, depth_caller]); omega)); (case hu => ((try simp only [units_in1, units_deeper, Around.mark_units]); omega)); k_whole; intro h9 tk9 n9 k9 e9; (with_reducible rename Fr _ _ _ _ => F9); (with_reducible rename News _ _ _ _ => N9); (refine' back_one F9 N9 ?U k9 e9 ?_; (case U => k_upd); k_whole); intro F' N'; clear k9 e9 N9 F9; (try dsimp only)) | (refine' siftdown_21 ?X ?T ?st ?hl ?hl0 ?P0 ?P1 ?hd ?hu ?_; (case X => k_asm); (case T => k_asm); (case st => exact Fr.keep (by k_asm)); (case hl => exact News.get (by k_asm) (by k_mem)); (case hl0 => exact News.fresh (by k_asm) (by k_mem)); (case P0 => exact Fr.keep (by k_asm) _ _ (by k_asm)); (case P1 => exact Fr.keep (by k_asm) _ _ (by k_asm)); (case hd => ((try simp only [depth_under_make, depth_under_kw, depth_in1, depth_deeper, depth_caller]); omega)); (case hu => ((try simp only [units_in1, units_deeper, Around.mark_units]); omega)); k_whole; intro h9 tk9 n9 k9 e9; (with_reducible rename Fr _ _ _ _ => F9); (with_reducible rename News _ _ _ _ => N9); (refine' back_one F9 N9 ?U k9 e9 ?_; (case U => k_upd); k_whole); intro F' N'; clear k9 e9 N9 F9; (try dsimp only)) | (refine' siftdown_31 ?X ?T ?st ?hl ?hl0 ?P0 ?P1 ?P2 ?hd ?hu ?_; (case X => k_asm); (case T => k_asm); (case st => exact Fr.keep (by k_asm)); (case hl => exact News.get (by k_asm) (by k_mem)); (case hl0 => exact News.fresh (by k_asm) (by k_mem)); (case P0 => exact Fr.keep (by k_asm) _ _ (by k_asm)); (case P1 => exact Fr.keep (by k_asm) _ _ (by k_asm)); (case P2 => exact Fr.keep (by k_asm) _ _ (by k_asm)); (case hd => ((try simp only [depth_under_make, depth_under_kw, depth_in1, depth_deeper, depth_caller]); omega)); (case hu => ((try simp only [units_in1, units_deeper, Around.mark_units]); omega)); k_whole; intro h9 tk9 n9 k9 e9; (with_reducible rename Fr _ _ _ _ => F9); (with_reducible rename News _ _ _ _ => N9); (refine' back_one F9 N9 ?U k9 e9 ?_; (case U => k_upd); k_whole); intro F' N'; clear k9 e9 N9 F9; (try dsimp only)) | (refine' siftdown_32 ?X ?T ?st ?hl ?hl0 ?P0 ?P1 ?P2 ?hd ?hu ?_; (case X => k_asm); (case T => k_asm); (case st => exact Fr.keep (by k_asm)); (case hl => exact News.get (by k_asm) (by k_mem)); (case hl0 => exact News.fresh (by k_asm) (by k_mem)); (case P0 => exact Fr.keep (by k_asm) _ _ (by k_asm)); (case P1 => exact Fr.keep (by k_asm) _ _ (by k_asm)); (case P2 => exact Fr.keep (by k_asm) _ _ (by k_asm)); (case hd => ((try simp only [depth_under_make, depth_under_kw, depth_in1, depth_deeper, depth_caller]); omega)); (case hu => ((try simp only [units_in1, units_deeper, Around.mark_units]); omega)); k_whole; intro h9 tk9 n9 k9 e9; (with_reducible rename Fr _ _ _ _ => F9); (with_reducible rename News _ _ _ _ => N9); (refine' back_one F9 N9 ?U k9 e9 ?_; (case U => k_upd); k_whole); intro F' N'; clear k9 e9 N9 F9; (try dsimp only)))))
set_option maxRecDepth 100000 in
set_option maxHeartbeats 8000000 in
theorem siftup_1 {l a0 : Addr} {x0 y0 : Int} {t0 u0 : Tok} {n n0 : Nat} {t : Tok}
    (X : (hd.heap_39 w.params).In b₀) (T : Top p loose mean mg mb b₀) (st : b₀.StaysIn s.heap) (hl : s.heap.get? l = some (listOf #[.ref a0] n)) (hl0 : b₀.get? l = none)
    (P0 : s.heap.get? a0 = some (tupO x0 y0 t0 u0 n0))
    (hd : dp + 20 < recursionLimit) (hu : un + 120 < cLine)
    (h : ∀ h' tk n', (∀ b o, b ≠ l → s.heap.get? b = some o → h'.get? b = some o) → h'.get? l = some (listOf #[.ref a0] n') → Q .none { s with heap := h', toks := tk }) :
    wpAny (model prog w) ⟨none, dp, fr, gd, un⟩ (call (.ref 35) [.ref l, .int 0 t]) Q E s := by
  refine' enter (news := [(l, listOf #[.ref a0] n)]) X T st (news_one hl hl0) ?ho ?hcd ?room ?hbind ?hloc ?_ ?c2 ?c3 ?c4 ?c5
  case ho => k_is
  case hcd => k_is
  case room => show dp < _; omega
  case hbind => exact BindsTo.of_eq rfl
  case hloc => exact locs rfl
  case c5 => decide
  case c2 => rfl
  case c3 => rfl
  case c4 => rfl
  intro g L' h' hg F' N' X' T' l1
  have P0' := hg _ _ P0 (by simpa using ne_of_tup hl P0)
  have hl1 : l < L' := l1 _ (.head _)
  clear l1 st hl hl0 X T P0
  try dsimp only
  k_steps
  all_goals (refine' h _ _ _ ?k ?e; (case k => exact keeps_one hg (by k_asm)); (case e => ((repeat (first | rw [if_pos (by assumption)] | rw [if_neg (by simp only [Bool.not_eq_true]; assumption)])); exact News.get (by k_asm) (by k_mem))))
set_option maxRecDepth 100000 in
set_option maxHeartbeats 8000000 in
theorem siftup_2 {l a0 a1 : Addr} {x0 y0 x1 y1 : Int} {t0 u0 t1 u1 : Tok} {n n0 n1 : Nat} {t : Tok}
    (X : (hd.heap_39 w.params).In b₀) (T : Top p loose mean mg mb b₀) (st : b₀.StaysIn s.heap) (hl : s.heap.get? l = some (listOf #[.ref a0, .ref a1] n)) (hl0 : b₀.get? l = none)
    (P0 : s.heap.get? a0 = some (tupO x0 y0 t0 u0 n0)) (P1 : s.heap.get? a1 = some (tupO x1 y1 t1 u1 n1))
    (hd : dp + 20 < recursionLimit) (hu : un + 120 < cLine)
    (h : ∀ h' tk n', (∀ b o, b ≠ l → s.heap.get? b = some o → h'.get? b = some o) → h'.get? l = some (listOf (if plt (x0, y0) (x1, y1) then #[.ref a0, .ref a1] else #[.ref a1, .ref a0]) n') → Q .none { s with heap := h', toks := tk }) :
    wpAny (model prog w) ⟨none, dp, fr, gd, un⟩ (call (.ref 35) [.ref l, .int 0 t]) Q E s := by
  refine' enter (news := [(l, listOf #[.ref a0, .ref a1] n)]) X T st (news_one hl hl0) ?ho ?hcd ?room ?hbind ?hloc ?_ ?c2 ?c3 ?c4 ?c5
  case ho => k_is
  case hcd => k_is
  case room => show dp < _; omega
  case hbind => exact BindsTo.of_eq rfl
  case hloc => exact locs rfl
  case c5 => decide
  case c2 => rfl
  case c3 => rfl
  case c4 => rfl
  intro g L' h' hg F' N' X' T' l1
  have P0' := hg _ _ P0 (by simpa using ne_of_tup hl P0)
  have P1' := hg _ _ P1 (by simpa using ne_of_tup hl P1)
  have hl1 : l < L' := l1 _ (.head _)
  clear l1 st hl hl0 X T P0 P1
  try dsimp only
  k_steps
  all_goals (refine' h _ _ _ ?k ?e; (case k => exact keeps_one hg (by k_asm)); (case e => ((repeat (first | rw [if_pos (by assumption)] | rw [if_neg (by simp only [Bool.not_eq_true]; assumption)])); exact News.get (by k_asm) (by k_mem))))
set_option maxRecDepth 100000 in
set_option maxHeartbeats 8000000 in
theorem siftup_3 {l a0 a1 a2 : Addr} {x0 y0 x1 y1 x2 y2 : Int} {t0 u0 t1 u1 t2 u2 : Tok} {n n0 n1 n2 : Nat} {t : Tok}
    (X : (hd.heap_39 w.params).In b₀) (T : Top p loose mean mg mb b₀) (st : b₀.StaysIn s.heap) (hl : s.heap.get? l = some (listOf #[.ref a0, .ref a1, .ref a2] n)) (hl0 : b₀.get? l = none)
    (P0 : s.heap.get? a0 = some (tupO x0 y0 t0 u0 n0)) (P1 : s.heap.get? a1 = some (tupO x1 y1 t1 u1 n1)) (P2 : s.heap.get? a2 = some (tupO x2 y2 t2 u2 n2))
    (hd : dp + 20 < recursionLimit) (hu : un + 120 < cLine)
    (h : ∀ h' tk n', (∀ b o, b ≠ l → s.heap.get? b = some o → h'.get? b = some o) → h'.get? l = some (listOf (if plt (x1, y1) (x2, y2) then (if plt (x0, y0) (x1, y1) then #[.ref a0, .ref a1, .ref a2] else #[.ref a1, .ref a0, .ref a2]) else (if plt (x0, y0) (x2, y2) then #[.ref a0, .ref a1, .ref a2] else #[.ref a2, .ref a1, .ref a0])) n') → Q .none { s with heap := h', toks := tk }) :
    wpAny (model prog w) ⟨none, dp, fr, gd, un⟩ (call (.ref 35) [.ref l, .int 0 t]) Q E s := by
  refine' enter (news := [(l, listOf #[.ref a0, .ref a1, .ref a2] n)]) X T st (news_one hl hl0) ?ho ?hcd ?room ?hbind ?hloc ?_ ?c2 ?c3 ?c4 ?c5
  case ho => k_is
  case hcd => k_is
  case room => show dp < _; omega
  case hbind => exact BindsTo.of_eq rfl
  case hloc => exact locs rfl
  case c5 => decide
  case c2 => rfl
  case c3 => rfl
  case c4 => rfl
  intro g L' h' hg F' N' X' T' l1
  have P0' := hg _ _ P0 (by simpa using ne_of_tup hl P0)
  have P1' := hg _ _ P1 (by simpa using ne_of_tup hl P1)
  have P2' := hg _ _ P2 (by simpa using ne_of_tup hl P2)
  have hl1 : l < L' := l1 _ (.head _)
  clear l1 st hl hl0 X T P0 P1 P2
  try dsimp only
  k_steps
  all_goals (refine' h _ _ _ ?k ?e; (case k => exact keeps_one hg (by k_asm)); (case e => ((repeat (first | rw [if_pos (by assumption)] | rw [if_neg (by simp only [Bool.not_eq_true]; assumption)])); exact News.get (by k_asm) (by k_mem))))
local macro_rules | `(tactic| walk_at "call ref") => `(tactic| (k_here; k_dflt (first | (refine' siftup_1 ?X ?T ?st ?hl ?hl0 ?P0 ?hd ?hu ?_; (case X => k_asm); (case T => k_asm); (case st => exact Fr.keep (by k_asm)); (case hl => exact News.get (by k_asm) (by k_mem)); (case hl0 => exact News.fresh (by k_asm) (by k_mem)); (case P0 => exact Fr.keep (by k_asm) _ _ (by k_asm)); (case hd => ((try simp only [depth_under_make, depth_under_kw, depth_in1, depth_deeper, depth_caller]); omega)); (case hu => ((try simp only [units_in1, units_deeper, Around.mark_units]); omega)); k_whole; intro h9 tk9 n9 k9 e9; (with_reducible rename Fr _ _ _ _ => F9); (with_reducible rename News _ _ _ _ => N9); (refine' back_one F9 N9 ?U k9 e9 ?_; (case U => k_upd); k_whole); intro F' N'; clear k9 e9 N9 F9; (try dsimp only)) | (refine' siftup_2 ?X ?T ?st ?hl ?hl0 ?P0 ?P1 ?hd ?hu ?_; (case X => k_asm); (case T => k_asm); (case st => exact Fr.keep (by k_asm)); (case hl => exact News.get (by k_asm) (by k_mem)); (case hl0 => exact News.fresh (by k_asm) (by k_mem)); (case P0 => exact Fr.keep (by k_asm) _ _ (by k_asm)); (case P1 => exact Fr.keep (by k_asm) _ _ (by k_asm)); (case hd => ((try simp only [depth_under_make, depth_under_kw, depth_in1, depth_deeper, depth_caller]); omega)); (case hu => ((try simp only [units_in1, units_deeper, Around.mark_units]); omega)); k_whole; intro h9 tk9 n9 k9 e9; (with_reducible rename Fr _ _ _ _ => F9); (with_reducible rename News _ _ _ _ => N9); (refine' back_one F9 N9 ?U k9 e9 ?_; (case U => k_upd); k_whole); intro F' N'; clear k9 e9 N9 F9; (try dsimp only)) | (refine' siftup_3 ?X ?T ?st ?hl ?hl0 ?P0 ?P1 ?P2 ?hd ?hu ?_; (case X => k_asm); (case T => k_asm); (case st => exact Fr.keep (by k_asm)); (case hl => exact News.get (by k_asm) (by k_mem)); (case hl0 => exact News.fresh (by k_asm) (by k_mem)); (case P0 => exact Fr.keep (by k_asm) _ _ (by k_asm)); (case P1 => exact Fr.keep (by k_asm) _ _ (by k_asm)); (case P2 => exact Fr.keep (by k_asm) _ _ (by k_asm)); (case hd => ((try simp only [depth_under_make, depth_under_kw, depth_in1, depth_deeper, depth_caller]); omega)); (case hu => ((try simp only [units_in1, units_deeper, Around.mark_units]); omega)); k_whole; intro h9 tk9 n9 k9 e9; (with_reducible rename Fr _ _ _ _ => F9); (with_reducible rename News _ _ _ _ => N9); (refine' back_one F9 N9 ?U k9 e9 ?_; (case U => k_upd); k_whole); intro F' N'; clear k9 e9 N9 F9; (try dsimp only)))))
set_option maxRecDepth 100000 in
set_option maxHeartbeats 8000000 in
theorem pushpop_1 {l a0 ai : Addr} {x0 y0 xi yi : Int} {t0 u0 ti ui : Tok} {n n0 ni : Nat}
    (X : (hd.heap_39 w.params).In b₀) (T : Top p loose mean mg mb b₀) (st : b₀.StaysIn s.heap) (hl : s.heap.get? l = some (listOf #[.ref a0] n)) (hl0 : b₀.get? l = none)
    (P0 : s.heap.get? a0 = some (tupO x0 y0 t0 u0 n0)) (Pi : s.heap.get? ai = some (tupO xi yi ti ui ni))
    (hd : dp + 30 < recursionLimit) (hu : un + 140 < cLine)
    (h : ∀ h' tk n', (∀ b o, b ≠ l → s.heap.get? b = some o → h'.get? b = some o) → h'.get? l = some (listOf (if plt (x0, y0) (xi, yi) then #[.ref ai] else #[.ref a0]) n') → Q (if plt (x0, y0) (xi, yi) then .ref a0 else .ref ai) { s with heap := h', toks := tk }) :
    wpAny (model prog w) ⟨none, dp, fr, gd, un⟩ (call (.ref 21) [.ref l, .ref ai]) Q E s := by
  refine' enter (news := [(l, listOf #[.ref a0] n)]) X T st (news_one hl hl0) ?ho ?hcd ?room ?hbind ?hloc ?_ ?c2 ?c3 ?c4 ?c5
  case ho => k_is
  case hcd => k_is
  case room => show dp < _; omega
  case hbind => exact BindsTo.of_eq rfl
  case hloc => exact locs rfl
  case c5 => decide
  case c2 => rfl
  case c3 => rfl
  case c4 => rfl
  intro g L' h' hg F' N' X' T' l1
  have P0' := hg _ _ P0 (by simpa using ne_of_tup hl P0)
  have Pi' := hg _ _ Pi (by simpa using ne_of_tup hl Pi)
  have hl1 : l < L' := l1 _ (.head _)
  clear l1 st hl hl0 X T P0 Pi
  try dsimp only
  k_steps
  all_goals (first | (rename plt (x0, y0) (xi, yi) = true => hc; simp only [hc, if_true] at h) | (rename plt (x0, y0) (xi, yi) = false => hc; simp only [hc, if_false, Bool.false_eq_true] at h))
  all_goals (refine' h _ _ _ ?k ?e; (case k => exact keeps_one hg (by k_asm)); (case e => ((repeat (first | rw [if_pos (by assumption)] | rw [if_neg (by simp only [Bool.not_eq_true]; assumption)])); exact News.get (by k_asm) (by k_mem))))
set_option maxRecDepth 100000 in
set_option maxHeartbeats 8000000 in
theorem pushpop_2 {l a0 a1 ai : Addr} {x0 y0 x1 y1 xi yi : Int} {t0 u0 t1 u1 ti ui : Tok} {n n0 n1 ni : Nat}
    (X : (hd.heap_39 w.params).In b₀) (T : Top p loose mean mg mb b₀) (st : b₀.StaysIn s.heap) (hl : s.heap.get? l = some (listOf #[.ref a0, .ref a1] n)) (hl0 : b₀.get? l = none)
    (P0 : s.heap.get? a0 = some (tupO x0 y0 t0 u0 n0)) (P1 : s.heap.get? a1 = some (tupO x1 y1 t1 u1 n1)) (Pi : s.heap.get? ai = some (tupO xi yi ti ui ni))
    (hd : dp + 30 < recursionLimit) (hu : un + 140 < cLine)
    (h : ∀ h' tk n', (∀ b o, b ≠ l → s.heap.get? b = some o → h'.get? b = some o) → h'.get? l = some (listOf (if plt (x0, y0) (xi, yi) then (if plt (xi, yi) (x1, y1) then #[.ref ai, .ref a1] else #[.ref a1, .ref ai]) else #[.ref a0, .ref a1]) n') → Q (if plt (x0, y0) (xi, yi) then .ref a0 else .ref ai) { s with heap := h', toks := tk }) :
    wpAny (model prog w) ⟨none, dp, fr, gd, un⟩ (call (.ref 21) [.ref l, .ref ai]) Q E s := by
  refine' enter (news := [(l, listOf #[.ref a0, .ref a1] n)]) X T st (news_one hl hl0) ?ho ?hcd ?room ?hbind ?hloc ?_ ?c2 ?c3 ?c4 ?c5
  case ho => k_is
  case hcd => k_is
  case room => show dp < _; omega
  case hbind => exact BindsTo.of_eq rfl
  case hloc => exact locs rfl
  case c5 => decide
  case c2 => rfl
  case c3 => rfl
  case c4 => rfl
  intro g L' h' hg F' N' X' T' l1
  have P0' := hg _ _ P0 (by simpa using ne_of_tup hl P0)
  have P1' := hg _ _ P1 (by simpa using ne_of_tup hl P1)
  have Pi' := hg _ _ Pi (by simpa using ne_of_tup hl Pi)
  have hl1 : l < L' := l1 _ (.head _)
  clear l1 st hl hl0 X T P0 P1 Pi
  try dsimp only
  k_steps
  all_goals (first | (rename plt (x0, y0) (xi, yi) = true => hc; simp only [hc, if_true] at h) | (rename plt (x0, y0) (xi, yi) = false => hc; simp only [hc, if_false, Bool.false_eq_true] at h))
  all_goals (refine' h _ _ _ ?k ?e; (case k => exact keeps_one hg (by k_asm)); (case e => ((repeat (first | rw [if_pos (by assumption)] | rw [if_neg (by simp only [Bool.not_eq_true]; assumption)])); exact News.get (by k_asm) (by k_mem))))
set_option maxRecDepth 100000 in
set_option maxHeartbeats 8000000 in
theorem pushpop_3 {l a0 a1 a2 ai : Addr} {x0 y0 x1 y1 x2 y2 xi yi : Int} {t0 u0 t1 u1 t2 u2 ti ui : Tok} {n n0 n1 n2 ni : Nat}
    (X : (hd.heap_39 w.params).In b₀) (T : Top p loose mean mg mb b₀) (st : b₀.StaysIn s.heap) (hl : s.heap.get? l = some (listOf #[.ref a0, .ref a1, .ref a2] n)) (hl0 : b₀.get? l = none)
    (P0 : s.heap.get? a0 = some (tupO x0 y0 t0 u0 n0)) (P1 : s.heap.get? a1 = some (tupO x1 y1 t1 u1 n1)) (P2 : s.heap.get? a2 = some (tupO x2 y2 t2 u2 n2)) (Pi : s.heap.get? ai = some (tupO xi yi ti ui ni))
    (hd : dp + 30 < recursionLimit) (hu : un + 140 < cLine)
    (h : ∀ h' tk n', (∀ b o, b ≠ l → s.heap.get? b = some o → h'.get? b = some o) → h'.get? l = some (listOf (if plt (x0, y0) (xi, yi) then (if plt (x1, y1) (x2, y2) then (if plt (xi, yi) (x1, y1) then #[.ref ai, .ref a1, .ref a2] else #[.ref a1, .ref ai, .ref a2]) else (if plt (xi, yi) (x2, y2) then #[.ref ai, .ref a1, .ref a2] else #[.ref a2, .ref a1, .ref ai])) else #[.ref a0, .ref a1, .ref a2]) n') → Q (if plt (x0, y0) (xi, yi) then .ref a0 else .ref ai) { s with heap := h', toks := tk }) :
    wpAny (model prog w) ⟨none, dp, fr, gd, un⟩ (call (.ref 21) [.ref l, .ref ai]) Q E s := by
  refine' enter (news := [(l, listOf #[.ref a0, .ref a1, .ref a2] n)]) X T st (news_one hl hl0) ?ho ?hcd ?room ?hbind ?hloc ?_ ?c2 ?c3 ?c4 ?c5
  case ho => k_is
  case hcd => k_is
  case room => show dp < _; omega
  case hbind => exact BindsTo.of_eq rfl
  case hloc => exact locs rfl
  case c5 => decide
  case c2 => rfl
  case c3 => rfl
  case c4 => rfl
  intro g L' h' hg F' N' X' T' l1
  have P0' := hg _ _ P0 (by simpa using ne_of_tup hl P0)
  have P1' := hg _ _ P1 (by simpa using ne_of_tup hl P1)
  have P2' := hg _ _ P2 (by simpa using ne_of_tup hl P2)
  have Pi' := hg _ _ Pi (by simpa using ne_of_tup hl Pi)
  have hl1 : l < L' := l1 _ (.head _)
  clear l1 st hl hl0 X T P0 P1 P2 Pi
  try dsimp only
  k_steps
  all_goals (first | (rename plt (x0, y0) (xi, yi) = true => hc; simp only [hc, if_true] at h) | (rename plt (x0, y0) (xi, yi) = false => hc; simp only [hc, if_false, Bool.false_eq_true] at h))
  all_goals (refine' h _ _ _ ?k ?e; (case k => exact keeps_one hg (by k_asm)); (case e => ((repeat (first | rw [if_pos (by assumption)] | rw [if_neg (by simp only [Bool.not_eq_true]; assumption)])); exact News.get (by k_asm) (by k_mem))))
end
end Mj
end
section
open PySem PySem.W PyProof.Rows PySem.Calls
namespace Mj
/-! ## pairs as cells -/
abbrev Cell := Addr × Int × Int
def CellAt (h : Heap) (c : Cell) : Prop := ∃ t u n, h.get? c.1 = some (tupO c.2.1 c.2.2 t u n)
abbrev refs (cs : List Cell) : List Value := cs.map fun c => Value.ref c.1
abbrev clt (a b : Cell) : Bool := plt a.2 b.2
theorem CellAt.keeps {h h' : Heap} {c : Cell} (x : CellAt h c) (k : ∀ b o, h.get? b = some o → h'.get? b = some o) : CellAt h' c :=
  let ⟨t, u, n, e⟩ := x; ⟨t, u, n, k _ _ e⟩
theorem CellAt.but {h h' : Heap} {c : Cell} {l : Addr} {its : Array Value} {n : Nat} (x : CellAt h c) (hl : h.get? l = some (listOf its n)) (k : ∀ b o, b ≠ l → h.get? b = some o → h'.get? b = some o) : CellAt h' c :=
  let ⟨t, u, n, e⟩ := x; ⟨t, u, n, k _ _ (ne_of_tup hl e) e⟩
def pushL : List Cell → Cell → List Cell
  | [_], x => [x]
  | [_, b], x => if clt x b then [x, b] else [b, x]
  | [_, b, c], x => if clt b c then (if clt x b then [x, b, c] else [b, x, c]) else (if clt x c then [x, b, c] else [c, b, x])
  | l, _ => l
def ppL : List Cell → Cell → List Cell
  | [], _ => []
  | a :: t, x => if clt a x then pushL (a :: t) x else a :: t
def ppR : List Cell → Cell → Cell
  | [], x => x
  | a :: _, x => if clt a x then a else x
section
variable {prog : Program} {w : World} {s : Shared} {b₀ : Heap} {p : Program} {loose : List Str} {mean : ExcName → Option Value} {mg mb : Str → Option Value} {Q : Value → Shared → Prop} {E : Value → Shared → Prop}
  {dp un : Nat} {fr : Option (List Env)} {gd : Option (List Code)}
theorem pushpop {l : Addr} {n : Nat} {cs : List Cell} {x : Cell} (X : (hd.heap_39 w.params).In b₀) (T : Top p loose mean mg mb b₀) (st : b₀.StaysIn s.heap) (hl : s.heap.get? l = some (listOf (refs cs).toArray n)) (hl0 : b₀.get? l = none)
    (h1 : 1 ≤ cs.length) (h3 : cs.length ≤ 3) (hc : ∀ c ∈ cs, CellAt s.heap c) (hx : CellAt s.heap x) (hd : dp + 30 < recursionLimit) (hu : un + 140 < cLine)
    (h : ∀ h' tk n', (∀ b o, b ≠ l → s.heap.get? b = some o → h'.get? b = some o) → h'.get? l = some (listOf (refs (ppL cs x)).toArray n') → Q (.ref (ppR cs x).1) { s with heap := h', toks := tk }) :
    wpAny (model prog w) ⟨none, dp, fr, gd, un⟩ (call (.ref 21) [.ref l, .ref x.1]) Q E s := by
  obtain ⟨t, u, k, e⟩ := hx
  match cs, h1, h3, hc, hl, h with
  | [a], _, _, hc, hl, h =>
    obtain ⟨t0, u0, k0, e0⟩ := hc a (by simp)
    refine pushpop_1 X T st hl hl0 e0 e hd hu fun h' tk n' k e => ?_
    have := h h' tk n' k
    simp only [ppL, ppR, pushL, clt] at this
    split at e <;> rename_i c
    · simp only [c, if_true] at this ⊢; exact this e
    · simp only [c, if_false, Bool.false_eq_true] at this ⊢; exact this e
  | [a, b], _, _, hc, hl, h =>
    obtain ⟨t0, u0, k0, e0⟩ := hc a (by simp)
    obtain ⟨t1, u1, k1, e1⟩ := hc b (by simp)
    refine pushpop_2 X T st hl hl0 e0 e1 e hd hu fun h' tk n' k e => ?_
    have := h h' tk n' k
    simp only [ppL, ppR, pushL, clt] at this
    split at e <;> rename_i c
    · simp only [c, if_true] at this ⊢
      refine this ?_
      split at e <;> rename_i c' <;> simp only [c', if_true, if_false, Bool.false_eq_true] <;> exact e
    · simp only [c, if_false, Bool.false_eq_true] at this ⊢; exact this e
  | [a, b, c], _, _, hc, hl, h =>
    obtain ⟨t0, u0, k0, e0⟩ := hc a (by simp)
    obtain ⟨t1, u1, k1, e1⟩ := hc b (by simp)
    obtain ⟨t2, u2, k2, e2⟩ := hc c (by simp)
    refine pushpop_3 X T st hl hl0 e0 e1 e2 e hd hu fun h' tk n' k e => ?_
    have := h h' tk n' k
    simp only [ppL, ppR, pushL, clt] at this
    split at e <;> rename_i c'
    · simp only [c', if_true] at this ⊢
      refine this ?_
      split at e <;> rename_i d' <;> simp only [d', if_true, if_false, Bool.false_eq_true] <;> split at e <;> rename_i e' <;> simp only [e', if_true, if_false, Bool.false_eq_true] <;> exact e
    · simp only [c', if_false, Bool.false_eq_true] at this ⊢; exact this e
  | [], h1, _, _, _, _ => simp at h1
  | _ :: _ :: _ :: _ :: _, _, h3, _, _, _ => simp at h3
end

/-! ## a loop over a list of the base, or over a range -/
section
variable {prog : Program} {w : World} {A : Around} {E : Value → Shared → Prop} {s : Shared} {env : Env} {h₀ : Heap} {x : Str} {body : List Stmt} {Q : Flow → Shared → Prop}
def TurnEnd (h₀ : Heap) (L I : Addr) (oI : Obj) (J : (Str → Option Value) → List (Addr × Obj) → Prop) (s : Shared) (Q : Flow → Shared → Prop) (f : Flow) (s₂ : Shared) : Prop :=
  match f with
  | .ret v => Q (.ret v) s₂
  | .brk => Q .next s₂
  | _ => ∃ h' tk m' nx, s₂ = { s with heap := h', toks := tk } ∧ Fr h₀ L h' m' ∧ News h₀ L h' ((I, oI) :: nx) ∧ (∀ p ∈ nx, p.1 ≠ I) ∧ J m' nx
theorem loop_walks {I : Addr} {n : Nat} {P : Nat → Value → Prop} {St : Nat → Heap → Prop} {fp : List Addr} {m₀ : Str → Option Value} {news : List (Addr × Obj)} (J : Nat → (Str → Option Value) → List (Addr × Obj) → Prop)
    (W : Walks prog w A I fp [I] n P St) (hfp : ∀ b ∈ fp, b = I ∨ ∃ o, h₀.get? b = some o) (hob : ∀ i h, St i h → ∃ o, h.get? I = some o) (hL : env.locals ∉ fp) (hI : h₀.get? I = none) (hnI : ∀ p ∈ news, p.1 ≠ I) (hst : St 0 s.heap)
    (F : Fr h₀ env.locals s.heap m₀) (N : News h₀ env.locals s.heap news) (hj : J 0 m₀ news)
    (turn : ∀ i v m₁ nx h tk oI, i < n → P i v → (∀ p ∈ nx, p.1 ≠ I) → J i m₁ nx → Fr h₀ env.locals h (fun y => if y = x then some v else m₁ y) → News h₀ env.locals h ((I, oI) :: nx) →
      wpAny (model prog w) A (execs body env) (TurnEnd h₀ env.locals I oI (J (i + 1)) s Q) E { s with heap := h, toks := tk })
    (done : ∀ m₁ nx h tk, J n m₁ nx → Fr h₀ env.locals h m₁ → News h₀ env.locals h nx → Q .next { s with heap := h, toks := tk }) :
    LoopAtV prog w A h₀ env x body Q E (.ref I) s := by
  refine ⟨I, fp, [I], n, P, St, m₀, news, J, rfl, W, hL, ?_, ?_, hst, F, N, hj, ?_, ?_⟩
  · intro b hb; rw [List.mem_singleton.mp hb]; exact hI
  · intro p hp hq; exact hnI p hp (List.mem_singleton.mp hq)
  · rintro i v m₁ news₁ s₁ own ⟨h, tk, rfl⟩ hi hP hJ hoff hown hget hmem hst' F₁ N₁
    obtain ⟨oI, hoI⟩ := hob _ _ hst'
    have hIfp : I ∈ fp := W.sub I (List.mem_singleton.mpr rfl)
    have hIown : (I, oI) ∈ own := hmem I hIfp hI oI hoI
    have hon : ∀ p ∈ own, p = (I, oI) := by
      intro p hp
      rcases hfp _ (hown p hp) with e | ⟨o, e⟩
      · have h1 := hget p hp
        rw [e] at h1
        have : p.2 = oI := by rw [hoI] at h1; exact (Option.some.inj h1).symm
        exact Prod.ext e this
      · have := (N₁ p (List.mem_append.mpr (.inl hp))).2.2
        rw [e] at this; cases this
    refine wpAny_mono (turn i v m₁ news₁ h tk oI hi hP (fun p hp q => hoff p hp (List.mem_singleton.mpr q)) hJ F₁ ?_) (fun f s₂ p => ?_) fun _ _ e => e
    · intro p hp
      rcases List.mem_cons.mp hp with rfl | hp
      · exact N₁ _ (List.mem_append.mpr (.inl hIown))
      · exact N₁ _ (List.mem_append.mpr (.inr hp))
    · have fin : TurnEnd h₀ env.locals I oI (J (i + 1)) s Q .next s₂ → LoopStepU h₀ env.locals [I] own (J (i + 1)) { s with heap := h, toks := tk } .next s₂ := by
        rintro ⟨h', tk, m', nx, e, F', N', hn, hj⟩
        refine ⟨rfl, h', tk, m', nx, e, F', fun p hp => ?_, fun p hp q => hn p hp (List.mem_singleton.mp q), hj⟩
        rcases List.mem_append.mp hp with hp | hp
        · rw [hon p hp]; exact N' _ (.head _)
        · exact N' _ (.tail _ hp)
      cases f with
      | ret v => exact .ret p
      | brk => exact .brk p
      | next => exact .next (fin p)
      | cont => exact .cont (fin p)
  · rintro h' tk m' news' F' N' _ hJ
    exact done m' news' h' tk hJ F' N'
theorem loop_list {l : Addr} {vs : List Value} {m₀ : Str → Option Value} {news : List (Addr × Obj)} (J : Nat → (Str → Option Value) → List (Addr × Obj) → Prop)
    (hh : A.handled = none) (hl : h₀.IsList l vs.toArray) (F : Fr h₀ env.locals s.heap m₀) (N : News h₀ env.locals s.heap news) (hj : J 0 m₀ news)
    (turn : ∀ i v m₁ nx I h tk oI, vs[i]? = some v → env.locals < I → (∀ p ∈ nx, p.1 ≠ I) → J i m₁ nx → Fr h₀ env.locals h (fun y => if y = x then some v else m₁ y) → News h₀ env.locals h ((I, oI) :: nx) →
      wpAny (model prog w) A (execs body env) (TurnEnd h₀ env.locals I oI (J (i + 1)) s Q) E { s with heap := h, toks := tk })
    (done : ∀ m₁ nx h tk, J vs.length m₁ nx → Fr h₀ env.locals h m₁ → News h₀ env.locals h nx → Q .next { s with heap := h, toks := tk }) :
    wpAny (model prog w) A (pyIter (.ref l)) (fun it s₂ => LoopAtV prog w A h₀ env x body Q E it s₂) E s := by
  have hls : s.heap.IsList l vs.toArray := hl.at fun o e => F.keep l o e
  obtain ⟨ol, hol, _⟩ := id hl
  have hlt : l < h₀.objs.size := Heap.lt_size hol
  have hne : l ≠ s.heap.objs.size := Nat.ne_of_lt (Nat.lt_trans (Nat.lt_of_lt_of_le hlt F.above) F.ns.lt)
  refine wpAny_pyIter_list hls ?_
  have W := Walks.list (prog := prog) (w := w) hh s.heap.objs.size l hne vs.toArray
  have hlen : vs.toArray.size = vs.length := by simp
  rw [hlen] at W
  refine loop_walks J W ?_ ?_ ?_ (next_is_new F) ?_ ⟨⟨_, Heap.get?_push_size _ rfl, rfl, rfl⟩, hls.at fun o e => Heap.get?_push_of_some _ e⟩ (F.push _) (fun p hp => ⟨Heap.get?_push_of_some _ (N p hp).1, (N p hp).2⟩) hj ?_ ?_
  · intro b hb
    rcases List.mem_cons.mp hb with e | hb
    · exact .inl e
    · rw [List.mem_singleton.mp hb]; exact .inr ⟨_, hol⟩
  · rintro i h ⟨⟨o, ho, _⟩, _⟩; exact ⟨o, ho⟩
  · intro hm
    rcases List.mem_cons.mp hm with e | hm
    · exact absurd F.ns.lt (e ▸ Nat.lt_irrefl _)
    · exact absurd (Nat.lt_of_lt_of_le hlt F.above) ((List.mem_singleton.mp hm) ▸ Nat.lt_irrefl _)
  · intro p hp hI
    exact absurd (Heap.lt_size (N p hp).1) (hI ▸ Nat.lt_irrefl _)
  · intro i v m₁ nx h tk oI hi hP hn hJ F₁ N₁
    exact turn i v m₁ nx _ h tk oI (by simpa using hP) F.ns.lt hn hJ F₁ N₁
  · exact done
theorem loop_range {r : Addr} {a₀ b₀ : Int} {t₀ u₀ v₀ : Tok} {n : Nat} {m₀ : Str → Option Value} {news : List (Addr × Obj)} (J : Nat → (Str → Option Value) → List (Addr × Obj) → Prop)
    (hh : A.handled = none) (hr : IsRange s.heap r a₀ b₀ 1 t₀ u₀ v₀) (hsmall : Builtin.Range.small a₀ b₀ 1 = true) (hsz : Builtin.Range.rangeSize a₀ b₀ 1 = (n : Int)) (F : Fr h₀ env.locals s.heap m₀) (N : News h₀ env.locals s.heap news) (hj : J 0 m₀ news)
    (turn : ∀ i t m₁ nx I h tk oI, i < n → env.locals < I → (∀ p ∈ nx, p.1 ≠ I) → J i m₁ nx → Fr h₀ env.locals h (fun y => if y = x then some (.int (a₀ + (i : Int)) t) else m₁ y) → News h₀ env.locals h ((I, oI) :: nx) →
      wpAny (model prog w) A (execs body env) (TurnEnd h₀ env.locals I oI (J (i + 1)) s Q) E { s with heap := h, toks := tk })
    (done : ∀ m₁ nx h tk, J n m₁ nx → Fr h₀ env.locals h m₁ → News h₀ env.locals h nx → Q .next { s with heap := h, toks := tk }) :
    wpAny (model prog w) A (pyIter (.ref r)) (fun it s₂ => LoopAtV prog w A h₀ env x body Q E it s₂) E s := by
  refine wpAny_pyIter_range hr hsmall ?_
  have W : Walks prog w A s.heap.objs.size [s.heap.objs.size] [s.heap.objs.size] n (fun i v => i < n ∧ ∃ t, v = .int (a₀ + i * 1) t)
      (fun i h => IsRangeIter h s.heap.objs.size (a₀ + (i : Nat) * 1) ((n : Int) - (i : Nat)) 1) := (Walks.range hh _ a₀ 1 n).bound
  refine loop_walks J W (fun b hb => .inl (List.mem_singleton.mp hb)) (fun i h hi => ⟨_, hi⟩) ?_ (next_is_new F) ?_ (by show IsRangeIter _ _ _ _ _; rw [hsz]; simpa using Heap.get?_push_size _ rfl) (F.push _) (fun p hp => ⟨Heap.get?_push_of_some _ (N p hp).1, (N p hp).2⟩) hj ?_ ?_
  · intro hm
    exact absurd F.ns.lt ((List.mem_singleton.mp hm) ▸ Nat.lt_irrefl _)
  · intro p hp hI
    exact absurd (Heap.lt_size (N p hp).1) (hI ▸ Nat.lt_irrefl _)
  · rintro i v m₁ nx h tk oI hi ⟨_, t, rfl⟩ hn hJ F₁ N₁
    have e1 : a₀ + (i : Int) * 1 = a₀ + (i : Int) := by omega
    rw [e1] at F₁
    exact turn i t m₁ nx _ h tk oI hi F.ns.lt hn hJ F₁ N₁
  · exact done
end
end Mj
end
section
open PySem PySem.W PyProof.Rows PySem.Calls
namespace Mj
section
variable {prog : Program} {w : World} {A : Around} {s : Shared} {K : Frag} {b₀ : Heap} {news : List (Addr × Obj)} {p : Program} {loose : List Str} {mean : ExcName → Option Value} {mg mb : Str → Option Value} {Q : Value → Shared → Prop} {E : Value → Shared → Prop}
theorem hide_stays (st : b₀.StaysIn s.heap) (N : ∀ q ∈ news, s.heap.get? q.1 = some q.2 ∧ b₀.get? q.1 = none) : b₀.StaysIn (hideAll s.heap (news.map fun q => q.1)) := fun b o e => hideAll_get _ (st b o e) fun z => by
  obtain ⟨q, hq, rfl⟩ := List.mem_map.mp z
  rw [(N q hq).2] at e; cases e
/-- enter a def of the top that has cells -/
theorem enterC {name qual : Str} {params : Arguments} {body : List Stmt} {scope : Scope} {dV kV doc pm cdv ct oc : Value} {an od : Option Addr} {osl : Array (Option Value)} {f : Addr} {args : List Value} {binds : List (Str × Value)}
    (X : K.In b₀) (T : Top p loose mean mg mb b₀) (st : b₀.StaysIn s.heap) (N : ∀ q ∈ news, s.heap.get? q.1 = some q.2 ∧ b₀.get? q.1 = none)
    (ho : K.lookup f = some ⟨oc, od, .func (fnOf name qual params body scope dV kV doc pm an cdv ct), osl⟩) (hcd : codeIn K cdv qual = true) (hroom : A.depth < recursionLimit)
    (hbind : BindsTo s (fnOf name qual params body scope dV kV doc pm an cdv ct) ⟨args, []⟩ binds) (hkind : (binds.all fun y => scope.names.lookup y.1 == some .local || scope.names.lookup y.1 == some .cell) = true)
    (hnd : ((cellsFrom 0 scope.names []).map (·.1)).Nodup)
    (h : ∀ g L' h₁ tk cells, (∀ b o, s.heap.get? b = some o → b ∉ news.map (fun q => q.1) → g.get? b = some o) → Fr g L' h₁ (bindL (envOfC qual scope L' f cdv).kindOf binds fun _ => none) → News g L' h₁ (cells ++ news) →
      CellsAre (bindC (envOfC qual scope L' f cdv).kindOf binds fun _ => none) (cellsFrom (L' + 1) scope.names []) cells → K.In g → Top p loose mean mg mb g → (∀ p ∈ news, p.1 < L') → L' = s.heap.objs.size →
      wpAny (model prog w) (A.deeper (envOfC qual scope L' f cdv)) (execs body (envOfC qual scope L' f cdv))
        (fun fl s' => Q (match fl with | .ret v => v | _ => .none) s') (fun _ _ => False) { s with heap := h₁, toks := tk })
    (hco : scope.isCoroutine = false) (hgen : scope.isGenerator = false) (hk : scope.kind = .function) :
    wpAny (model prog w) A (call (.ref f) args) Q E s := by
  refine wpAny_call ?_
  have st' := hide_stays st N
  refine codeAny_call_function hroom (X.keeps st _ _ ho) rfl hco hgen rfl (codeRec_of (X.keeps st) hcd) (hbind _ _ _ _ ?_)
  refine wpAny_newFunctionEnv_cells hk (kindsX hkind _) fun env' he s' x => ?_
  subst he
  refine ⟨(T.nolimit.keeps st).keeps x.toInCall.keep, codeAny_func ?_⟩
  obtain ⟨h₁, tk, rfl, _⟩ := x.done
  have hk₁ := x.toInCall.keep
  obtain ⟨cells, NC, Y⟩ := Cl.news (h₀ := s.heap) (Nat.le_refl _) fun n c hm => ⟨x.cell n c (lookup_of_mem_nodup (cellsFrom_names scope.names 0 (s.heap.objs.size + 1) [] [] rfl ▸ hnd) hm), x.above n c hm⟩
  refine wpAny_mono (h _ s.heap.objs.size h₁ tk cells (fun b o e n => hideAll_get _ e n) ⟨x.toInCall.ns, fun b o e => hk₁ b o (of_hideAll _ e), Nat.le_of_eq (hideAll_size _ _)⟩ (fun q hq => ?_) Y (X.keeps st') (T.keeps st') (fun q hq => Heap.lt_size (N q hq).1) rfl) (fun fl s' hl => hl) (fun _ _ y => y.elim)
  rcases List.mem_append.mp hq with hq | hq
  · refine ⟨(NC q hq).1, (NC q hq).2.1, ?_⟩
    cases z : (hideAll s.heap (news.map fun q => q.1)).get? q.1 with
    | none => rfl
    | some o => have := of_hideAll _ z; rw [(NC q hq).2.2] at this; cases this
  · exact ⟨hk₁ _ _ (N q hq).1, Nat.ne_of_lt (Heap.lt_size (N q hq).1), hideAll_none _ (List.mem_map_of_mem hq)⟩
/-- as enter, with the frame's place told -/
theorem enter' {name qual : Str} {params : Arguments} {body : List Stmt} {scope : Scope} {dV kV doc pm cdv ct oc : Value} {an od : Option Addr} {osl : Array (Option Value)} {f : Addr} {args : List Value} {binds : List (Str × Value)}
    (X : K.In b₀) (T : Top p loose mean mg mb b₀) (st : b₀.StaysIn s.heap) (N : ∀ q ∈ news, s.heap.get? q.1 = some q.2 ∧ b₀.get? q.1 = none)
    (ho : K.lookup f = some ⟨oc, od, .func (fnOf name qual params body scope dV kV doc pm an cdv ct), osl⟩) (hcd : codeIn K cdv qual = true) (hroom : A.depth < recursionLimit)
    (hbind : BindsTo s (fnOf name qual params body scope dV kV doc pm an cdv ct) ⟨args, []⟩ binds) (hloc : ∀ y ∈ binds, scope.names.lookup y.1 = some .local)
    (h : ∀ g L' h₁, (∀ b o, s.heap.get? b = some o → b ∉ news.map (fun q => q.1) → g.get? b = some o) → Fr g L' h₁ (fun y => binds.reverse.lookup y) → News g L' h₁ news → K.In g → Top p loose mean mg mb g → (∀ p ∈ news, p.1 < L') → L' = s.heap.objs.size →
      wpAny (model prog w) (A.deeper (envOf qual scope L' f cdv)) (execs body (envOf qual scope L' f cdv))
        (fun fl s' => Q (match fl with | .ret v => v | _ => .none) s') (fun _ _ => False) { s with heap := h₁, toks := s.toks + binds.length })
    (hco : scope.isCoroutine = false) (hgen : scope.isGenerator = false) (hk : scope.kind = .function) (hcell : ∀ x ∈ scope.names, x.2 ≠ .cell) :
    wpAny (model prog w) A (call (.ref f) args) Q E s := by
  refine wpAny_call ?_
  have st' := hide_stays st N
  refine codeAny_call_def (fd := fnOf name qual params body scope dV kV doc pm an cdv ct) (body := body) (binds := binds) hroom (X.keeps st _ _ ho) rfl (T.nolimit.keeps st) (codeRec_of (X.keeps st) hcd) rfl hbind hcell hloc (fun h₁ hns hk₁ => ?_) hco hgen hk
  refine wpAny_mono (h _ s.heap.objs.size h₁ (fun b o e n => hideAll_get _ e n) ⟨hns, fun b o e => hk₁ b o (of_hideAll _ e), Nat.le_of_eq (hideAll_size _ _)⟩
    (fun q hq => ⟨hk₁ _ _ (N q hq).1, Nat.ne_of_lt (Heap.lt_size (N q hq).1), hideAll_none _ (List.mem_map_of_mem hq)⟩) (X.keeps st') (T.keeps st') (fun q hq => Heap.lt_size (N q hq).1) rfl) (fun fl s' hl => hl) (fun _ _ y => y.elim)
/-- enter a lambda -/
theorem enterLam {name qual : Str} {params : Arguments} {body : Expr} {scope : Scope} {cl : List (Str × Addr)} {pm ctv : Value} {c' f : Addr} {args : List Value} {binds : List (Str × Value)}
    (X : K.In b₀) (T : Top p loose mean mg mb b₀) (st : b₀.StaysIn s.heap) (N : ∀ q ∈ news, s.heap.get? q.1 = some q.2 ∧ b₀.get? q.1 = none)
    (ho : s.heap.get? f = some (kla_obj name qual params body scope cl pm c' ctv)) (hcd : s.heap.CodeRec (.ref c') qual) (hroom : A.depth < recursionLimit)
    (hbind : bindArgs (kla_fn name qual params body scope cl pm (.ref c') ctv) ⟨args, []⟩ = pure binds) (hloc : ∀ y ∈ binds, scope.names.lookup y.1 = some .local)
    (h : ∀ g L' h₁, (∀ b o, s.heap.get? b = some o → b ∉ news.map (fun q => q.1) → g.get? b = some o) → Fr g L' h₁ (fun y => binds.reverse.lookup y) → News g L' h₁ news → K.In g → Top p loose mean mg mb g → (∀ p ∈ news, p.1 < L') →
      wpAny (model prog w) (A.deeper (envX qual scope L' f (.ref c') cl)) (eval body (envX qual scope L' f (.ref c') cl))
        (fun v s' => Q v s') (fun _ _ => False) { s with heap := h₁, toks := s.toks + binds.length })
    (hco : scope.isCoroutine = false) (hgen : scope.isGenerator = false) (hk : scope.kind = .function) (hcell : ∀ x ∈ scope.names, x.2 ≠ .cell) :
    wpAny (model prog w) A (call (.ref f) args) Q E s := by
  refine wpAny_call ?_
  have st' := hide_stays st N
  refine kla_callFunE hroom ho rfl hco hgen rfl hcd ?_
  rw [hbind]
  refine wpAny_pure (wpAny_newFunctionEnv hcell hloc (fun h₁ hns hsb => ⟨(T.nolimit.keeps st).fresh _ hsb, ?_⟩) hk)
  show codeAny _ _ (.expr body (envX qual scope s.heap.objs.size f (.ref c') cl)) _ _
  have hk₁ : ∀ b o, s.heap.get? b = some o → h₁.get? b = some o := fun b o e => hsb.extBut b o (Nat.ne_of_lt (Heap.lt_size e)) (Heap.get?_push_of_some _ e)
  exact kla_codeExpr (wpAny_mono (h _ s.heap.objs.size h₁ (fun b o e n => hideAll_get _ e n) ⟨hns, fun b o e => hk₁ b o (of_hideAll _ e), Nat.le_of_eq (hideAll_size _ _)⟩
    (fun q hq => ⟨hk₁ _ _ (N q hq).1, Nat.ne_of_lt (Heap.lt_size (N q hq).1), hideAll_none _ (List.mem_map_of_mem hq)⟩) (X.keeps st') (T.keeps st') (fun q hq => Heap.lt_size (N q hq).1)) (fun v s' hl => hl) (fun _ _ y => y.elim))
end
section
variable {M : Model} {A : Around} {E : Value → Shared → Prop} {s : Shared} {h₀ : Heap} {L : Addr} {m : Str → Option Value} {news : List (Addr × Obj)}
theorem newList_L {vs : List Value} {Q : Value → Shared → Prop} (F : Fr h₀ L s.heap m) (N : News h₀ L s.heap news)
    (h : ∀ l h', Fr h₀ L h' m → News h₀ L h' ((l, listOf vs.toArray 0) :: news) → (∀ p ∈ news, p.1 < l) → L < l → Q (.ref l) { s with heap := h' }) (hsz : vs.length ≤ sizeLine) : wpAny M A (newList vs) Q E s :=
  newList_N F N (fun h' F' N' => h _ h' F' N' (fun p hp => Heap.lt_size (N p hp).1) F.ns.lt) hsz
theorem newTuple_L {vs : List Value} {Q : Value → Shared → Prop} (F : Fr h₀ L s.heap m) (N : News h₀ L s.heap news)
    (h : ∀ D h', Fr h₀ L h' m → News h₀ L h' ((D, ({ cls := .type "tuple", data := .seq vs.toArray } : Obj)) :: news) → (∀ p ∈ news, p.1 < D) → L < D → Q (.ref D) { s with heap := h' }) (hz : vs.length ≤ sizeLine) : wpAny M A (newTuple vs) Q E s :=
  newTuple_N F N (fun h' F' N' => h _ h' F' N' (fun p hp => Heap.lt_size (N p hp).1) F.ns.lt) hz
end
end Mj
end
section
open PySem PySem.W PyProof.Rows PySem.Calls
namespace Mj
theorem fill_k4 : PySem.Challenge.rw_mj0069_01 = PySem.Challenge.rw_mj0069_01 ∧ hd.heap_39 = hd.heap_39 := by
  k_fill
  exact ⟨rfl, rfl⟩
def root : List Cell → Cell
  | [] => (0, 0, 0)
  | a :: _ => a
abbrev St3 := List Cell × List Cell × List Cell
/-- one turn of _split_list: the heap, those through, the others -/
def stp (a : St3) (x : Cell) : St3 := (ppL a.1 x, if clt (root a.1) x then a.2.1 ++ [x] else a.2.1, if clt (root a.1) x then a.2.2 else a.2.2 ++ [x])
theorem ppL_length (cs : List Cell) (x : Cell) : (ppL cs x).length = cs.length := by
  match cs with
  | [] => rfl
  | [a] => simp only [ppL, pushL]; split <;> rfl
  | [a, b] => simp only [ppL, pushL]; (repeat' split) <;> rfl
  | [a, b, c] => simp only [ppL, pushL]; (repeat' split) <;> rfl
  | _ :: _ :: _ :: _ :: _ => simp only [ppL, pushL]; (repeat' split) <;> rfl
theorem ppL_mem {cs : List Cell} {x c : Cell} (h : c ∈ ppL cs x) : c ∈ cs ∨ c = x := by
  match cs, h with
  | [], h => exact .inl h
  | [a], h => simp only [ppL, pushL] at h; split at h <;> simp_all
  | [a, b], h => simp only [ppL, pushL] at h; (repeat' split at h) <;> simp_all <;> grind
  | [a, b, c], h => simp only [ppL, pushL] at h; (repeat' split at h) <;> simp_all <;> grind
  | a :: b :: c :: d :: r, h => simp only [ppL, pushL] at h; (repeat' split at h) <;> exact .inl h
/-- the predicate handed to _split_list -/
def Pred (prog : Program) (w : World) (f l : Addr) (K₀ : Heap) : Prop :=
  (∃ c d fd sl, K₀.get? f = some ⟨c, d, .func fd, sl⟩) ∧ K₀.get? l = none ∧
  ∀ (dp un : Nat) (fr : Option (List Env)) (gd : Option (List Code)) (s : Shared) (hs : List Cell) (x : Cell) (n : Nat) (Q E : Value → Shared → Prop),
    K₀.StaysIn s.heap → s.heap.get? l = some (listOf (refs hs).toArray n) → 1 ≤ hs.length → hs.length ≤ 3 → (∀ c ∈ hs, CellAt s.heap c) → CellAt s.heap x → dp + 40 < recursionLimit → un + 160 < cLine →
    (∀ h' tk n', (∀ b o, b ≠ l → s.heap.get? b = some o → h'.get? b = some o) → h'.get? l = some (listOf (refs (ppL hs x)).toArray n') → Q (.bool (clt (root hs) x)) { s with heap := h', toks := tk }) →
    wpAny (model prog w) ⟨none, dp, fr, gd, un⟩ (call (.ref f) [.ref x.1]) Q E s
theorem Pred.use {prog : Program} {w : World} {f l : Addr} {K₀ : Heap} {dp un : Nat} {fr : Option (List Env)} {gd : Option (List Code)} {s : Shared} {hs : List Cell} {x : Cell} {n : Nat} {Q E : Value → Shared → Prop} (hp : Pred prog w f l K₀)
    (st : K₀.StaysIn s.heap) (hl : s.heap.get? l = some (listOf (refs hs).toArray n)) (h1 : 1 ≤ hs.length) (h3 : hs.length ≤ 3) (hc : ∀ c ∈ hs, CellAt s.heap c) (hx : CellAt s.heap x) (hd : dp + 40 < recursionLimit) (hu : un + 160 < cLine)
    (h : ∀ h' tk n', (∀ b o, b ≠ l → s.heap.get? b = some o → h'.get? b = some o) → h'.get? l = some (listOf (refs (ppL hs x)).toArray n') → Q (.bool (clt (root hs) x)) { s with heap := h', toks := tk }) :
    wpAny (model prog w) ⟨none, dp, fr, gd, un⟩ (call (.ref f) [.ref x.1]) Q E s := hp.2.2 dp un fr gd s hs x n Q E st hl h1 h3 hc hx hd hu h
section
variable {M : Model} {A : Around} {E : Value → Shared → Prop} {s : Shared} {env : Env} {pos : Pos} {f : Addr} {first : List Value} {Q : Value → Shared → Prop}
/-- a call of a function object that is no def of the top -/
theorem callWith_F {c : Value} {d : Option Addr} {fd : FuncData} {sl : Array (Option Value)} {e : Expr} {rest : List Expr} (h : wpAny M A (spliced (backTo pos (starEach (e :: rest) env))) (fun vs s₁ => s₁.heap.get? f = some ⟨c, d, .func fd, sl⟩ ∧ wpAny M A (call (.ref f) (first ++ vs)) Q E s₁) E s)
    (he : starEach (e :: rest) env = (false, eval e env) :: starEach rest env := by rfl) (hplain : (backTo pos (starEach rest env)).any (·.1) = false := by rfl) :
    wpAny M A (callWith pos (.ref f) first (backTo pos (starEach (e :: rest) env)) []) Q E s := by
  rw [he] at h ⊢
  refine callWith_of (P := fun h => h.get? f = some ⟨c, d, .func fd, sl⟩) (by show ((false || (backTo pos (starEach rest env)).any (·.1)) || false) = false; rw [hplain]; rfl) (fun h q => ⟨.frame, .inl rfl, (Looks.ld (part := none) q).andThen .now⟩) (evalArgs_plain h)
end
theorem TurnEnd.intro {h₀ : Heap} {L I : Addr} {oI : Obj} {J : (Str → Option Value) → List (Addr × Obj) → Prop} {s : Shared} {Q : Flow → Shared → Prop} {h' : Heap} {tk : Nat} {m' : Str → Option Value} {nx : List (Addr × Obj)} (F : Fr h₀ L h' m') (N : News h₀ L h' ((I, oI) :: nx)) (hn : ∀ p ∈ nx, p.1 ≠ I) (hj : J m' nx) :
    TurnEnd h₀ L I oI J s Q .next { s with heap := h', toks := tk } := ⟨h', tk, m', nx, rfl, F, N, hn, hj⟩
theorem stays_fr {K₀ g h : Heap} {L : Addr} {m : Str → Option Value} (k : K₀.StaysIn g) (F : Fr g L h m) : K₀.StaysIn h := fun b o e => F.keep b o (k b o e)
theorem cells_fr {g h : Heap} {L : Addr} {m : Str → Option Value} {cs : List Cell} (k : ∀ c ∈ cs, CellAt g c) (F : Fr g L h m) : ∀ c ∈ cs, CellAt h c := fun c q => (k c q).keeps F.keep
theorem cell_fr {g h : Heap} {L : Addr} {m : Str → Option Value} {c : Cell} (k : CellAt g c) (F : Fr g L h m) : CellAt h c := k.keeps F.keep
theorem refs_push (cs : List Cell) (c : Cell) : (refs cs).toArray.push (.ref c.1) = (refs (cs ++ [c])).toArray := by simp
theorem stp_length (l : List Cell) : ∀ a : St3, (l.foldl stp a).1.length = a.1.length := by
  induction l with
  | nil => intro a; rfl
  | cons x r ih => intro a; rw [List.foldl_cons, ih]; exact ppL_length _ _
theorem stp_sizes (l : List Cell) : ∀ a : St3, (l.foldl stp a).2.1.length + (l.foldl stp a).2.2.length = a.2.1.length + a.2.2.length + l.length := by
  induction l with
  | nil => intro a; rfl
  | cons x r ih =>
    intro a; rw [List.foldl_cons, ih, List.length_cons]; simp only [stp]
    split <;> simp <;> omega
theorem stp_mem (l : List Cell) : ∀ (a : St3) (c : Cell), c ∈ (l.foldl stp a).1 → c ∈ a.1 ∨ c ∈ l := by
  induction l with
  | nil => intro a c h; exact .inl h
  | cons x r ih =>
    intro a c h; rw [List.foldl_cons] at h
    rcases ih _ _ h with h | h
    · rcases ppL_mem h with h | h
      · exact .inl h
      · exact .inr (by rw [h]; exact .head _)
    · exact .inr (.tail _ h)
theorem fr_put {g h : Heap} {L : Addr} {m : Str → Option Value} (F : Fr g L h m) (k : Str) {v : Value} (e : m k = some v) : Fr g L h (fun q => if q = k then some v else m q) := by
  have : (fun q => if q = k then some v else m q) = m := by
    funext q
    by_cases hq : q = k
    · rw [if_pos hq, hq, e]
    · rw [if_neg hq]
  rw [this]; exact F
theorem fr_eq {g h : Heap} {L : Addr} {m m' : Str → Option Value} (F : Fr g L h m) (e : m = m') : Fr g L h m' := e ▸ F
local macro_rules | `(tactic| walk_at "callWith ref") => `(tactic| (k_here; k_dflt (refine' callWith_F (c := ?c) (d := ?d) (fd := ?fd) (sl := ?sl) ?_ ?he ?hp; (case he => rfl); (case hp => rfl); k_whole)))
local macro_rules | `(tactic| walk_at "And") => `(tactic| ((with_reducible show (_ = some (Obj.mk _ _ (Data.func _) _)) ∧ _); (refine ⟨Fr.keep (by k_asm) _ _ (by k_asm), ?_⟩); try dsimp only [List.nil_append, List.cons_append]))
local macro_rules | `(tactic| walk_at "call ref") => `(tactic| (k_here; k_dflt (refine' Pred.use ?hp ?st ?hl ?h1 ?h3 ?hc ?hx ?hd ?hu ?_; (case hp => k_asm); (case st => exact stays_fr (by k_asm) (by k_asm)); (case hl => exact News.get (by k_asm) (by k_mem)); (case h1 => k_asm); (case h3 => k_asm); (case hc => exact cells_fr (by k_asm) (by k_asm)); (case hx => exact cell_fr (by k_asm) (by k_asm)); (case hd => ((try simp only [depth_under_make, depth_under_kw, depth_in1, depth_deeper, depth_caller]); omega)); (case hu => ((try simp only [units_in1, units_deeper, Around.mark_units]); omega)); k_whole); intro h9 tk9 n9 k9 e9; (with_reducible rename Fr _ _ _ _ => F9); (with_reducible rename News _ _ _ _ => N9); (refine' back_one F9 N9 ?U k9 e9 ?_; (case U => k_upd); k_whole); intro F' N'; clear k9 e9 N9 F9; (try dsimp only)))
local macro_rules | `(tactic| walk_at "newList") => `(tactic| (k_here; k_dflt (refine' newList_L ?k1 ?k2 ?_ ?z; (case k1 => k_asm); (case k2 => k_asm); (case z => size_fits); k_whole); intro l' h' F' N' l1 l2; (try k_lt l1); (try k_lt2 l2); (try k_sweep)))
local macro_rules | `(tactic| walk_at "newTuple") => `(tactic| (k_here; k_dflt (refine' newTuple_L ?k1 ?k2 ?_ ?z; (case k1 => k_asm); (case k2 => k_asm); (case z => kmk_size); k_whole); intro l' h' F' N' l1 l2; (try k_lt l1); (try k_lt2 l2); (try k_sweep)))
local macro_rules | `(tactic| size_fits) => `(tactic| ((simp only [List.size_toArray, List.length_map, PySem.sizeLine_eq]); omega))
section
variable {prog : Program} {w : World} {s : Shared} {b₀ : Heap} {p : Program} {loose : List Str} {mean : ExcName → Option Value} {mg mb : Str → Option Value} {Q : Value → Shared → Prop} {E : Value → Shared → Prop}
  {dp un : Nat} {fr : Option (List Env)} {gd : Option (List Code)}
set_option maxRecDepth 100000 in
set_option maxHeartbeats 8000000 in
theorem split_spec {rw f l : Addr} {row hs : List Cell} {nr n : Nat} {K₀ : Heap} (X : (hd.heap_39 w.params).In b₀) (T : Top p loose mean mg mb b₀) (st : b₀.StaysIn s.heap) (hb0 : b₀.get? l = none)
    (P : Pred prog w f l K₀) (hK : K₀.StaysIn s.heap)
    (hl : s.heap.get? l = some (listOf (refs hs).toArray n)) (hr : s.heap.get? rw = some (listOf (refs row).toArray nr)) (hne : rw ≠ l) (h1 : 1 ≤ hs.length) (h3 : hs.length ≤ 3) (hc : ∀ c ∈ hs, CellAt s.heap c) (hrc : ∀ c ∈ row, CellAt s.heap c) (hrl : row.length ≤ 1000)
    (hd : dp + 50 < recursionLimit) (hu : un + 180 < cLine)
    (hret : ∀ h' tk r y z n' n1 n2 n3, (∀ b o, b ≠ l → s.heap.get? b = some o → h'.get? b = some o) → h'.get? l = some (listOf (refs (row.foldl stp (hs, [], [])).1).toArray n') →
      h'.get? r = some { cls := .type "tuple", data := .seq #[.ref y, .ref z] n3 } → h'.get? y = some (listOf (refs (row.foldl stp (hs, [], [])).2.1).toArray n1) → h'.get? z = some (listOf (refs (row.foldl stp (hs, [], [])).2.2).toArray n2) → s.heap.objs.size < y → y < z → z < r →
      Q (.ref r) { s with heap := h', toks := tk }) :
    wpAny (model prog w) ⟨none, dp, fr, gd, un⟩ (call (.ref 42) [.ref rw, .ref f]) Q E s := by
  refine' enter' (news := [(l, listOf (refs hs).toArray n)]) X T st (news_one hl hb0) ?ho ?hcd ?room ?hbind ?hloc ?_ ?c2 ?c3 ?c4 ?c5
  case ho => k_is
  case hcd => k_is
  case room => show dp < _; omega
  case hbind => exact BindsTo.of_eq rfl
  case hloc => exact locs rfl
  case c5 => decide
  case c2 => rfl
  case c3 => rfl
  case c4 => rfl
  intro g L' h' hg F' N' X' T' l1 hL0
  have hl1 : l < L' := l1 _ (.head _)
  have hr' := hg _ _ hr (by simpa using hne)
  have hK' : K₀.StaysIn g := fun b o e => hg b o (hK b o e) (by
    have : b ≠ l := fun q => by rw [q, P.2.1] at e; cases e
    simpa using this)
  obtain ⟨fc, fd0, fdd, fsl, hf0⟩ := P.1
  have hf' := hK' _ _ hf0
  have hc' : ∀ c ∈ hs, CellAt g c := fun c m => by
    obtain ⟨t, u, k, e⟩ := hc c m
    exact ⟨t, u, k, hg _ _ e (by simpa using ne_of_tup hl e)⟩
  have hrc' : ∀ c ∈ row, CellAt g c := fun c m => by
    obtain ⟨t, u, k, e⟩ := hrc c m
    exact ⟨t, u, k, hg _ _ e (by simpa using ne_of_tup hl e)⟩
  have hR : g.IsList rw (refs row).toArray := ⟨_, hr', rfl, nr, rfl⟩
  clear l1 st hl hb0 X T hc hrc hr hne hK hf0
  try dsimp only
  k_steps
  rename_i y hy1 ly ly0 hy2 z hz1 lz lz0 hz2 F1 N1
  refine For_invV g rfl rfl ?_ (by intro _; rfl) (by passes_own)
  walk1
  refine loop_list (fun i m nx => m (Str.ofString "predicate") = some (.ref f) ∧ m (Str.ofString "yes") = some (.ref y) ∧ m (Str.ofString "no") = some (.ref z) ∧
    ∃ n1 n2 n3, nx = [(z, listOf (refs ((row.take i).foldl stp (hs, [], [])).2.2).toArray n2), (y, listOf (refs ((row.take i).foldl stp (hs, [], [])).2.1).toArray n1), (l, listOf (refs ((row.take i).foldl stp (hs, [], [])).1).toArray n3)])
    rfl hR F1 N1 ⟨rfl, rfl, rfl, 0, 0, n, rfl⟩ ?_ ?_
  · rintro i v m₁ nx I h tk oI hv hLI hnI ⟨hm1, hm2, hm3, n1, n2, n3, rfl⟩ F₁ N₁
    obtain ⟨c, hci, rfl⟩ : ∃ c, row[i]? = some c ∧ v = .ref c.1 := by
      rw [List.getElem?_map] at hv
      cases e : row[i]? with
      | none => rw [e] at hv; cases hv
      | some c => rw [e] at hv; exact ⟨c, rfl, (Option.some.inj hv).symm⟩
    have hcm : c ∈ row := List.mem_of_getElem? hci
    have hlt : i < row.length := (List.getElem?_eq_some_iff.mp hci).1
    have hts : row.take (i + 1) = row.take i ++ [c] := by rw [List.take_add_one, hci]; rfl
    have ha1 : ((row.take i).foldl stp (hs, [], [])).1.length = hs.length := stp_length _ _
    have ha2 := stp_sizes (row.take i) (hs, [], [])
    have ha3 : ∀ c ∈ ((row.take i).foldl stp (hs, [], [])).1, CellAt g c := fun c q => (stp_mem _ _ _ q).elim (hc' c) fun q => hrc' c (List.mem_of_mem_take q)
    have ha4 : (((row.take (i + 1)).foldl stp (hs, [], [])) : St3) = stp ((row.take i).foldl stp (hs, [], [])) c := by rw [hts, List.foldl_append]; rfl
    rw [ha4]
    generalize (row.take i).foldl stp (hs, [], []) = acc at *
    have F2 := fr_put (fr_put (fr_put F₁ (Str.ofString "predicate") (v := .ref f) (by rw [if_neg (by decide)]; exact hm1)) (Str.ofString "yes") (v := .ref y) (by (repeat rw [if_neg (by decide)]); exact hm2)) (Str.ofString "no") (v := .ref z) (by (repeat rw [if_neg (by decide)]); exact hm3)
    have d1 : @Ne Nat z I := hnI (z, _) (.head _)
    have d2 : @Ne Nat y I := hnI (y, _) (.tail _ (.head _))
    have d3 : @Ne Nat l I := hnI (l, _) (.tail _ (.tail _ (.head _)))
    have hcg := hrc' c hcm
    have hb1 : 1 ≤ acc.1.length := by omega
    have hb3 : acc.1.length ≤ 3 := by omega
    have hb4 : acc.2.1.length + acc.2.2.length ≤ 1000 := by
      simp only [List.length_nil, List.length_take] at ha2; omega
    clear F₁ hv hts ha4 ha1 ha2 hm1 hm2 hm3 hnI hR hr' hc' hrc' F1 N1 hcm
    k_steps
    · rename_i h9 tk9 n9 a9 h8 F9 N9
      have e : stp acc c = (ppL acc.1 c, acc.2.1 ++ [c], acc.2.2) := by simp only [stp, a9, if_true]
      rw [e]
      exact TurnEnd.intro F9 N9 (by k_all) ⟨rfl, rfl, rfl, n1 + 1, n2, n9, by rw [refs_push]⟩
    · rename_i h9 tk9 n9 a9 h8 F9 N9
      have e : stp acc c = (ppL acc.1 c, acc.2.1, acc.2.2 ++ [c]) := by simp only [stp, a9, if_false, Bool.false_eq_true]
      rw [e]
      exact TurnEnd.intro F9 N9 (by k_all) ⟨rfl, rfl, rfl, n1, n2 + 1, n9, by rw [refs_push]⟩
  · rintro m₁ nx h tk ⟨hm1, hm2, hm3, n1, n2, n3, rfl⟩ F₁ N₁
    have e : row.take (refs row).length = row := List.take_of_length_le (by simp)
    rw [e] at N₁
    have F2 := fr_put (fr_put F₁ (Str.ofString "yes") (v := .ref y) hm2) (Str.ofString "no") (v := .ref z) (by (repeat rw [if_neg (by decide)]); exact hm3)
    clear F₁ hm1 hm2 hm3 F1 N1 e
    dsimp only
    k_steps
    rename_i D' h8 F9 N9 l9 l8
    refine' hret _ _ D' y z n3 n1 n2 0 ?k1 ?k2 ?k3 ?k4 ?k5 (hL0 ▸ ly0) lz.1 l9.1
    case k1 => exact keeps_one hg F9
    case k3 => exact News.get N9 (by k_mem)
    case k2 => exact News.get N9 (by k_mem)
    case k4 => exact News.get N9 (by k_mem)
    case k5 => exact News.get N9 (by k_mem)
end
end Mj
end
section
open PySem PySem.W PyProof.Rows PySem.Calls
namespace Mj
/-! ## the sort, as the library's tree of questions, answers rightly -/
section
variable {key : Nat → Int} {n : Nat} {α β : Type}
inductive Runs (key : Nat → Int) (n : Nat) {α : Type} : KasT α → α → Prop where
  | ret (a : α) : Runs key n (.ret a) a
  | ask {i j : Nat} {k : Bool → KasT α} {a : α} : i < n → j < n → Runs key n (k (decide (key i < key j))) a → Runs key n (.ask i j k) a
theorem Runs.bind {t : KasT α} {a : α} {f : α → KasT β} {b : β} (h : Runs key n t a) (k : Runs key n (f a) b) : Runs key n (t.bind f) b := by
  induction h with
  | ret a => exact k
  | ask hi hj _ ih => exact .ask hi hj (ih k)
theorem Runs.yes {i j : Nat} {k : Bool → KasT α} {a : α} (hi : i < n) (hj : j < n) (c : key i < key j) (h : Runs key n (k true) a) : Runs key n (.ask i j k) a := .ask hi hj (by rw [decide_eq_true c]; exact h)
theorem Runs.no {i j : Nat} {k : Bool → KasT α} {a : α} (hi : i < n) (hj : j < n) (c : ¬ key i < key j) (h : Runs key n (k false) a) : Runs key n (.ask i j k) a := .ask hi hj (by rw [decide_eq_false c]; exact h)
theorem Runs.wp {cmp : Nat → Nat → (Bool → Shared → Prop) → Shared → Prop} {G : α → Shared → Prop} {s : Shared} {t : KasT α} {a : α} (h : Runs key n t a)
    (hc : ∀ i j C, i < n → j < n → C (decide (key i < key j)) s → cmp i j C s) (g : G a s) : t.kasWp cmp G s := by
  induction h with
  | ret a => exact g
  | ask hi hj _ ih => exact hc _ _ _ hi hj (ih g)
/-- the order of an array of places: a shuffle of the n places -/
structure Ok (n : Nat) (p : Array Nat) : Prop where
  perm : p.Perm (List.range n).toArray
theorem Ok.size {p : Array Nat} (h : Ok n p) : p.size = n := by have := h.perm.size_eq; simpa using this
theorem Ok.lt {p : Array Nat} (h : Ok n p) (i : Nat) (hn : 0 < n) : p.getD i 0 < n := by
  by_cases hi : i < p.size
  · have : p.getD i 0 = p[i] := by simp [Array.getD, hi]
    rw [this]
    have hm : p[i] ∈ (List.range n).toArray := h.perm.mem_iff.mp (Array.getElem_mem hi)
    simpa using hm
  · simp [Array.getD, hi]; exact hn
theorem Ok.rev {p : Array Nat} (h : Ok n p) (i j : Nat) : Ok n (kas_rev p i j) := ⟨(mirror_perm _ _ _ _).trans h.perm⟩
theorem Ok.bub {p : Array Nat} (h : Ok n p) (i j : Nat) : Ok n (bubble p i j) := ⟨(bubble_perm _ _ _).trans h.perm⟩
abbrev kk (key : Nat → Int) (p : Array Nat) (i : Nat) : Int := key (p.getD i 0)
theorem getD_of {p q : Array Nat} {i j : Nat} (h : p[i]? = q[j]?) : p.getD i 0 = q.getD j 0 := by
  rw [Array.getD_eq_getD_getElem?, Array.getD_eq_getD_getElem?, h]
theorem kk_rev {p : Array Nat} {i j : Nat} (hj : j ≤ p.size) (k : Nat) : kk key (kas_rev p i j) k = if i ≤ k ∧ k < j then kk key p (i + j - 1 - k) else kk key p k := by
  have := getElem?_mirror_all (xs := p) (i := i) hj k
  unfold kk
  split <;> rename_i c
  · rw [getD_of (i := k) (j := i + j - 1 - k)]
    rw [kas_rev, this, if_pos c]
  · rw [getD_of (i := k) (j := k)]
    rw [kas_rev, this, if_neg c]
theorem kk_bub {p : Array Nat} {src d : Nat} (hs : src < p.size) (hd : d ≤ src) (k : Nat) : kk key (bubble p src d) k = if k = src - d then kk key p src else if src - d < k ∧ k ≤ src then kk key p (k - 1) else kk key p k := by
  have := getElem?_bubble (xs := p) hs d hd k
  by_cases c : k = src - d
  · rw [if_pos c]
    exact congrArg key (getD_of (by rw [this, if_pos c]))
  · rw [if_neg c]
    by_cases c' : src - d < k ∧ k ≤ src
    · rw [if_pos c']
      exact congrArg key (getD_of (by rw [this, if_neg c, if_pos c']))
    · rw [if_neg c']
      exact congrArg key (getD_of (by rw [this, if_neg c, if_neg c']))
def Up (key : Nat → Int) (p : Array Nat) (m : Nat) : Prop := ∀ i, i + 1 < m → kk key p i ≤ kk key p (i + 1)
def Dn (key : Nat → Int) (p : Array Nat) (m : Nat) : Prop := ∀ i, i + 1 < m → kk key p (i + 1) ≤ kk key p i
theorem Up.le {p : Array Nat} {m : Nat} (h : Up key p m) {i j : Nat} (hij : i ≤ j) (hj : j < m) : kk key p i ≤ kk key p j := by
  induction j with
  | zero => obtain rfl : i = 0 := by omega
            exact Int.le_refl _
  | succ j ih =>
    by_cases e : i = j + 1
    · rw [e]; exact Int.le_refl _
    · exact Int.le_trans (ih (by omega) (by omega)) (h j hj)
theorem run_asc {p : Array Nat} (hp : Ok n p) : ∀ (f a : Nat), 1 ≤ a → a + f ≤ n → Up key p a → ∃ m, Runs key n (kas_asc p f a) m ∧ a ≤ m ∧ m ≤ a + f ∧ Up key p m ∧ (m < a + f → kk key p m < kk key p (m - 1))
  | 0, a, _, _, hu => ⟨a, .ret a, Nat.le_refl _, Nat.le_refl _, hu, fun h => absurd h (Nat.lt_irrefl _)⟩
  | f + 1, a, h1, hn, hu => by
    have hn0 : 0 < n := by omega
    unfold kas_asc
    by_cases c : kk key p a < kk key p (a - 1)
    · exact ⟨a, .yes (hp.lt _ hn0) (hp.lt _ hn0) c (by simp only [if_true]; exact .ret a), Nat.le_refl _, by omega, hu, fun _ => c⟩
    · obtain ⟨m, r, m1, m2, m3, m4⟩ := run_asc hp f (a + 1) (by omega) (by omega) (fun i hi => by
        by_cases e : i + 1 = a
        · rw [e]; have : i = a - 1 := by omega
          rw [this]; omega
        · exact hu i (by omega))
      exact ⟨m, .no (hp.lt _ hn0) (hp.lt _ hn0) c (by simp only [Bool.false_eq_true, if_false]; exact r), by omega, by omega, m3, fun h => m4 (by omega)⟩
theorem run_desc : ∀ (f : Nat) (p : Array Nat) (a q : Nat), Ok n p → 1 ≤ a → a + f ≤ n → q + 1 ≤ a → Dn key p a → (∀ k, a - (q + 1) ≤ k → k < a → kk key p k = kk key p (a - 1)) →
    ∃ p' a' q', Runs key n (kas_desc f p a q) (p', a', q') ∧ Ok n p' ∧ a ≤ a' ∧ a' ≤ a + f ∧ q' + 1 ≤ a' ∧ Dn key p' a' ∧ (∀ k, a' - (q' + 1) ≤ k → k < a' → kk key p' k = kk key p' (a' - 1))
  | 0, p, a, q, hp, _, _, hq, hd, he => ⟨p, a, q, .ret _, hp, Nat.le_refl _, Nat.le_refl _, hq, hd, he⟩
  | f + 1, p, a, q, hp, h1, hn, hq, hd, he => by
    have hn0 : 0 < n := by omega
    have hsz := hp.size
    unfold kas_desc
    by_cases c : kk key p a < kk key p (a - 1)
    · have same : ∀ k, kk key (kas_rev p (a - (q + 1)) a) k = kk key p k := fun k => by
        rw [kk_rev (by omega)]
        split <;> rename_i ck
        · rw [he _ (by omega) (by omega), he k ck.1 ck.2]
        · rfl
      have go : ∀ p2 : Array Nat, Ok n p2 → (∀ k, kk key p2 k = kk key p k) → ∃ p' a' q', Runs key n (kas_desc f p2 (a + 1) 0) (p', a', q') ∧ Ok n p' ∧ a ≤ a' ∧ a' ≤ a + (f + 1) ∧ q' + 1 ≤ a' ∧ Dn key p' a' ∧ (∀ k, a' - (q' + 1) ≤ k → k < a' → kk key p' k = kk key p' (a' - 1)) := fun p2 h2 s2 => by
        obtain ⟨p', a', q', r, x1, x2, x3, x4, x5, x6⟩ := run_desc f p2 (a + 1) 0 h2 (by omega) (by omega) (by omega) (fun i hi => by
          rw [s2, s2]
          by_cases e : i + 1 = a
          · rw [e]; have : i = a - 1 := by omega
            rw [this]; omega
          · exact hd i (by omega)) (fun k k1 k2 => by have : k = a + 1 - 1 := by omega
                                                      rw [this])
        exact ⟨p', a', q', r, x1, by omega, by omega, x4, x5, x6⟩
      by_cases hq0 : q > 0
      · obtain ⟨p', a', q', r, x⟩ := go _ (hp.rev (a - (q + 1)) a) same
        exact ⟨p', a', q', .yes (hp.lt _ hn0) (hp.lt _ hn0) c (by simp only [if_true, if_pos hq0]; exact r), x⟩
      · obtain ⟨p', a', q', r, x⟩ := go p hp fun _ => rfl
        exact ⟨p', a', q', .yes (hp.lt _ hn0) (hp.lt _ hn0) c (by simp only [if_true, if_neg hq0]; exact r), x⟩
    · by_cases d : kk key p (a - 1) < kk key p a
      · exact ⟨p, a, q, .no (hp.lt _ hn0) (hp.lt _ hn0) c (by simp only [Bool.false_eq_true, if_false]; exact .yes (hp.lt _ hn0) (hp.lt _ hn0) d (by simp only [if_true]; exact .ret _)), hp, Nat.le_refl _, by omega, hq, hd, he⟩
      · have eq : kk key p a = kk key p (a - 1) := by omega
        obtain ⟨p', a', q', r, x1, x2, x3, x4, x5, x6⟩ := run_desc f p (a + 1) (q + 1) hp (by omega) (by omega) (by omega) (fun i hi => by
          by_cases e : i + 1 = a
          · rw [e]; have : i = a - 1 := by omega
            rw [this]; omega
          · exact hd i (by omega)) (fun k k1 k2 => by
            by_cases e : k = a
            · rw [e]; rfl
            · rw [he k (by omega) (by omega)]; exact eq.symm)
        exact ⟨p', a', q', .no (hp.lt _ hn0) (hp.lt _ hn0) c (by simp only [Bool.false_eq_true, if_false]; exact .no (hp.lt _ hn0) (hp.lt _ hn0) d (by simp only [Bool.false_eq_true, if_false]; exact r)), x1, by omega, by omega, x4, x5, x6⟩
theorem run_tail3 {p : Array Nat} {a : Nat} (hp : Ok n p) (h1 : 1 ≤ a) (hn : a ≤ n) (hd : Dn key p a) : ∃ m p', Runs key n (kas_tail3 a n p) (m, p') ∧ Ok n p' ∧ 1 ≤ m ∧ m ≤ n ∧ Up key p' m := by
  have hsz := hp.size
  unfold kas_tail3
  obtain ⟨m, r, m1, m2, m3, _⟩ := run_asc (hp.rev 0 a) (n - a) a h1 (by omega) (key := key) (fun i hi => by
    rw [kk_rev (by omega), kk_rev (by omega), if_pos (by omega), if_pos (by omega)]
    have e : 0 + a - 1 - i = (0 + a - 1 - (i + 1)) + 1 := by omega
    rw [e]
    exact hd _ (by omega))
  exact ⟨m, _, r.bind (.ret _), hp.rev 0 a, by omega, by omega, m3⟩
theorem run_descPart {p : Array Nat} {a : Nat} (hp : Ok n p) (h1 : 1 ≤ a) (hn : a + 1 ≤ n) (hd : Dn key p (a + 1)) : ∃ m p', Runs key n (kas_descPart a n p) (m, p') ∧ Ok n p' ∧ 1 ≤ m ∧ m ≤ n ∧ Up key p' m := by
  unfold kas_descPart
  obtain ⟨p', a', q', r, x1, x2, x3, x4, x5, x6⟩ := run_desc (n - (a + 1)) p (a + 1) 0 hp (by omega) (by omega) (by omega) hd (fun k k1 k2 => by
    have : k = a + 1 - 1 := by omega
    rw [this])
  have hsz := x1.size
  by_cases hq0 : q' > 0
  · have same : ∀ k, kk key (kas_rev p' (a' - (q' + 1)) a') k = kk key p' k := fun k => by
      rw [kk_rev (by omega)]
      split <;> rename_i ck
      · rw [x6 _ (by omega) (by omega), x6 k ck.1 ck.2]
      · rfl
    obtain ⟨m, p2, r2, y⟩ := run_tail3 (key := key) (x1.rev (a' - (q' + 1)) a') (a := a') (by omega) (by omega) (fun i hi => by rw [same, same]; exact x5 i hi)
    exact ⟨m, p2, r.bind (by (try dsimp only); rw [if_pos hq0]; exact r2), y⟩
  · obtain ⟨m, p2, r2, y⟩ := run_tail3 (key := key) x1 (a := a') (by omega) (by omega) x5
    exact ⟨m, p2, r.bind (by (try dsimp only); rw [if_neg hq0]; exact r2), y⟩
theorem run_count {p : Array Nat} (hp : Ok n p) (h1 : 1 ≤ n) : ∃ m p', Runs key n (kas_count n p) (m, p') ∧ Ok n p' ∧ 1 ≤ m ∧ m ≤ n ∧ Up key p' m := by
  have hn0 : 0 < n := by omega
  have hsz := hp.size
  unfold kas_count
  obtain ⟨m, r, m1, m2, m3, m4⟩ := run_asc hp (n - 1) 1 (Nat.le_refl _) (by omega) (key := key) (fun i hi => absurd hi (by omega))
  by_cases e : m = n
  · exact ⟨m, p, r.bind (by (try dsimp only); rw [if_pos (by simpa using e)]; exact .ret _), hp, m1, by omega, m3⟩
  · have hlt : kk key p m < kk key p (m - 1) := m4 (by omega)
    by_cases hm : m > 1
    · by_cases c : kk key p 0 < kk key p (m - 1)
      · exact ⟨m, p, r.bind (by (try dsimp only); rw [if_neg (by simpa using e), if_pos hm]; exact .yes (hp.lt _ hn0) (hp.lt _ hn0) c (by simp only [if_true]; exact .ret _)), hp, m1, by omega, m3⟩
      · have eqs : ∀ k, k < m → kk key p k = kk key p (m - 1) := fun k hk => by
          have a1 := m3.le (Nat.zero_le k) hk
          have a2 := m3.le (show k ≤ m - 1 by omega) (by omega)
          omega
        have same : ∀ k, kk key (kas_rev p 0 m) k = kk key p k := fun k => by
          rw [kk_rev (by omega)]
          split <;> rename_i ck
          · rw [eqs _ (by omega), eqs k ck.2]
          · rfl
        obtain ⟨m', p2, r2, y⟩ := run_descPart (key := key) (hp.rev 0 m) (a := m) (by omega) (by omega) (fun i hi => by
          rw [same, same]
          by_cases q : i + 1 = m
          · rw [q]; have : i = m - 1 := by omega
            rw [this]; omega
          · rw [eqs (i + 1) (by omega), eqs i (by omega)]; exact Int.le_refl _)
        exact ⟨m', p2, r.bind (by (try dsimp only); rw [if_neg (by simpa using e), if_pos hm]; exact .no (hp.lt _ hn0) (hp.lt _ hn0) c (by simp only [Bool.false_eq_true, if_false]; exact r2)), y⟩
    · obtain rfl : m = 1 := by omega
      obtain ⟨m', p2, r2, y⟩ := run_descPart (key := key) hp (a := 1) (by omega) (by omega) (fun i hi => by
        obtain rfl : i = 0 := by omega
        exact Int.le_of_lt hlt)
      exact ⟨m', p2, r.bind (by (try dsimp only); rw [if_neg (by simpa using e), if_neg hm]; exact r2), y⟩
theorem run_place {p : Array Nat} {k : Nat} (hp : Ok n p) (hk : k < n) (hu : Up key p k) : ∀ (f l r : Nat), r ≤ k → l ≤ r → r - l ≤ f → (∀ i, i < l → kk key p i ≤ kk key p k) → (∀ i, r ≤ i → i < k → kk key p k < kk key p i) →
    ∃ m, Runs key n (kas_place p k f l r) m ∧ m ≤ k ∧ (∀ i, i < m → kk key p i ≤ kk key p k) ∧ (∀ i, m ≤ i → i < k → kk key p k < kk key p i)
  | 0, l, r, hr, hl, hf, h1, h2 => ⟨l, .ret l, by omega, h1, fun i a b => h2 i (by omega) b⟩
  | f + 1, l, r, hr, hl, hf, h1, h2 => by
    have hn0 : 0 < n := by omega
    unfold kas_place
    by_cases c : l ≥ r
    · rw [if_pos c]
      exact ⟨l, .ret l, by omega, h1, fun i a b => h2 i (by omega) b⟩
    · rw [if_neg c]
      by_cases d : kk key p k < kk key p ((l + r) / 2)
      · obtain ⟨m, q, x⟩ := run_place hp hk hu f l ((l + r) / 2) (by omega) (by omega) (by omega) h1 (fun i a b => Int.lt_of_lt_of_le d (hu.le a b))
        exact ⟨m, .yes (hp.lt _ hn0) (hp.lt _ hn0) d (by simp only [if_true]; exact q), x⟩
      · obtain ⟨m, q, x⟩ := run_place hp hk hu f ((l + r) / 2 + 1) r hr (by omega) (by omega) (fun i a => by
          have := hu.le (show i ≤ (l + r) / 2 by omega) (by omega)
          omega) h2
        exact ⟨m, .no (hp.lt _ hn0) (hp.lt _ hn0) d (by simp only [Bool.false_eq_true, if_false]; exact q), x⟩
theorem run_bin : ∀ (f : Nat) (p : Array Nat) (k : Nat), Ok n p → 1 ≤ k → k + f = n → Up key p k → ∃ p', Runs key n (kas_bin f p k) p' ∧ Ok n p' ∧ Up key p' n
  | 0, p, k, hp, _, hn, hu => ⟨p, .ret p, hp, by rw [← hn]; exact hu⟩
  | f + 1, p, k, hp, h1, hn, hu => by
    have hsz := hp.size
    unfold kas_bin
    obtain ⟨l, r, l1, l2, l3⟩ := run_place hp (show k < n by omega) hu k 0 k (Nat.le_refl _) (Nat.zero_le _) (by omega) (fun i a => absurd a (by omega)) (fun i a b => absurd b (by omega))
    obtain ⟨p', r2, x⟩ := run_bin f (bubble p k (k - l)) (k + 1) (hp.bub k (k - l)) (by omega) (by omega) (fun i hi => by
      have e : k - (k - l) = l := by omega
      rw [kk_bub (by omega) (by omega), kk_bub (by omega) (by omega), e]
      by_cases i1 : i = l
      · subst i1
        rw [if_pos rfl, if_neg (by omega), if_pos (by omega)]
        have := l3 i (Nat.le_refl _) (by omega)
        have e2 : i + 1 - 1 = i := by omega
        rw [e2]; omega
      · rw [if_neg i1]
        by_cases i2 : l < i
        · rw [if_pos (by omega), if_neg (by omega), if_pos (by omega)]
          have e2 : i + 1 - 1 = i - 1 + 1 := by omega
          rw [e2]; exact hu _ (by omega)
        · rw [if_neg (by omega)]
          by_cases i3 : i + 1 = l
          · rw [if_pos i3]; exact l2 i (by omega)
          · rw [if_neg i3, if_neg (by omega)]; exact hu i (by omega))
    exact ⟨p', r.bind r2, x⟩
theorem run_sort (key : Nat → Int) (h1 : 1 ≤ n) : ∃ p, Runs key n (kas_sort n) p ∧ Ok n p ∧ Up key p n := by
  unfold kas_sort
  obtain ⟨m, p, r, x1, x2, x3, x4⟩ := run_count (key := key) (n := n) (p := (List.range n).toArray) ⟨Array.Perm.refl _⟩ h1
  by_cases c : m < n
  · have e : max m 1 = m := by omega
    obtain ⟨p', r2, y⟩ := run_bin (n - m) p m x1 x2 (by omega) x4
    exact ⟨p', r.bind (by (try dsimp only); rw [if_pos c, e]; exact r2), y⟩
  · obtain rfl : m = n := by omega
    exact ⟨p, r.bind (by (try dsimp only); rw [if_neg c]; exact .ret _), x1, x4⟩
end
end Mj
end
section
open PySem PySem.W PyProof.Rows PySem.Calls
namespace Mj
/-! ## one number for a pair -/
abbrev ekey (c : Cell) : Int := 100 * c.2.1 + c.2.2
abbrev Kb (c : Cell) : Prop := -50 < c.2.2 ∧ c.2.2 ≤ 0
theorem plt_e {a b : Int × Int} (ha : -50 < a.2 ∧ a.2 ≤ 0) (hb : -50 < b.2 ∧ b.2 ≤ 0) : plt a b = decide (100 * a.1 + a.2 < 100 * b.1 + b.2) := by
  unfold plt
  split <;> rename_i c <;> exact decide_eq_decide.mpr (by omega)
theorem clt_e {a b : Cell} (ha : Kb a) (hb : Kb b) : clt a b = decide (ekey a < ekey b) := plt_e ha hb
/-- a cell of the base or of the ledger -/
def CellIn (h₀ : Heap) (news : List (Addr × Obj)) (c : Cell) : Prop := CellAt h₀ c ∨ ∃ t u n, (c.1, tupO c.2.1 c.2.2 t u n) ∈ news
theorem CellIn.at {h₀ h : Heap} {L : Addr} {m : Str → Option Value} {news : List (Addr × Obj)} {c : Cell} (x : CellIn h₀ news c) (F : Fr h₀ L h m) (N : News h₀ L h news) : CellAt h c :=
  x.elim (fun y => y.keeps F.keep) fun ⟨t, u, n, e⟩ => ⟨t, u, n, (N _ e).1⟩
theorem CellIn.mono {h₀ : Heap} {news news' : List (Addr × Obj)} {c : Cell} (x : CellIn h₀ news c) (k : ∀ p ∈ news, p ∈ news') : CellIn h₀ news' c :=
  x.imp id fun ⟨t, u, n, e⟩ => ⟨t, u, n, k _ e⟩
section
variable {prog : Program} {w : World} {A : Around} {E : Value → Shared → Prop} {s : Shared}
theorem keyLt_cells {a b : Cell} {Q : Bool → Shared → Prop} (ha : CellAt s.heap a) (hb : CellAt s.heap b) (h : Q (clt a b) s) : wpAny (model prog w) A (keyLt' (tuples' true) (.ref a.1) (.ref b.1)) Q E s := by
  obtain ⟨t, u, n, ea⟩ := ha
  obtain ⟨t', u', n', eb⟩ := hb
  refine kat_lt ea rfl eb rfl ?_
  show KatLex prog w A true (decide (2 < 2)) Q [(.int a.2.1 t, .int b.2.1 t'), (.int a.2.2 u, .int b.2.2 u')] 0 s
  unfold clt plt at h
  refine kat_cons (wpAny_eqBool_int ?_)
  by_cases hx : a.2.1 = b.2.1
  · rw [show (a.2.1 == b.2.1) = true by simp [hx]]
    simp only [hx, if_true] at h
    refine kat_yes (kat_cons (wpAny_eqBool_int ?_))
    by_cases hy : a.2.2 = b.2.2
    · rw [show (a.2.2 == b.2.2) = true by simp [hy]]
      refine kat_yes (kat_nil ?_)
      simpa [hy] using h
    · rw [show (a.2.2 == b.2.2) = false by simp [hy]]
      exact kat_no (kat_one _ _ (PyProof.Rows.lt_int h))
  · rw [show (a.2.1 == b.2.1) = false by simp [hx]]
    simp only [hx, if_false] at h
    exact kat_no (oneLt_int h)
theorem kind_cells {M : Model} {cs : List Cell} {Q : SortKind → Shared → Prop} (hc : ∀ c ∈ cs, CellAt s.heap c) (h1 : 1 ≤ cs.length) (h : Q (tuples' true) s) : wpAny M A (keyKind' (refs cs).toArray) Q E s := by
  obtain ⟨fs, hf, hT, hl⟩ : ∃ fs, KatTups s.heap (refs cs) fs ∧ (∀ v ∈ fs, Looks M s.heap (typeOf v) (.type "int")) ∧ fs.length = cs.length := by
    clear h1 h
    induction cs with
    | nil => exact ⟨[], trivial, (fun _ hv => nomatch hv), rfl⟩
    | cons c r ih =>
      obtain ⟨fs, x, y, z⟩ := ih fun d hd => hc d (.tail _ hd)
      obtain ⟨t, u, n, e⟩ := hc c (.head _)
      refine ⟨.int c.2.1 t :: fs, KatTups.cons e rfl rfl rfl x, ?_, by simp [z]⟩
      intro v hv
      rcases List.mem_cons.mp hv with rfl | hv
      · exact Looks.of_pure rfl
      · exact y v hv
  exact kat_kind hf (by omega) hT (by decide) h
end
section
variable {prog : Program} {w : World} {A : Around} {E : Value → Shared → Prop} {s : Shared} {h₀ : Heap} {L : Addr} {m : Str → Option Value} {news : List (Addr × Obj)}
theorem list_sort_one {a : Addr} {v : Value} {n : Nat} {P : PySem.Fin → Shared → Prop} (ho : s.heap.get? a = some (seqObj "list" #[v] n))
    (h : ∀ h' c, (∀ b o, b ≠ a → s.heap.get? b = some o → h'.get? b = some o) → h'.get? a = some (seqObj "list" #[v] c) → P (.done (.ret .none)) { s with heap := h' }) :
    wpAny (model prog w) A (Builtin.«list.sort» ⟨[.ref a], []⟩) P E s := by
  have ha : a < s.heap.objs.size := Heap.lt_size ho
  obtain ⟨e1, ho1⟩ : ∃ e1, (s.heap.update a (Obj.mapSeq fun _ => (#[] : Array Value))).get? a = some (seqObj "list" #[] e1) := ⟨_, get?_update_seq ho fun _ => #[]⟩
  rw [list_sort_plain]
  refine wpAny_bind (listItems_at ho rfl ?_)
  refine wpAny_bind (listUpdate_at ho rfl ?_ (by rw [sizeLine_eq]; simp) (Nat.zero_le _))
  refine wpAny_bind (seqEpoch_at ho1 rfl ?_)
  refine wpAny_bind (wpAny_newTuple ?_ (by rw [sizeLine_eq]; simp))
  refine wpAny_bind (wpAny_newList ?_ (Nat.zero_le _))
  refine wpAny_holding ?_
  have ho6 : (((s.heap.update a (Obj.mapSeq fun _ => #[])).push (seqObj "tuple" #[v] 0)).push (seqObj "list" #[] 0)).get? a = some (seqObj "list" #[] e1) := by
    rw [Heap.get?_push_ne _ _ _ (by rw [size_push', Heap.size_update]; exact Nat.ne_of_lt (Nat.lt_succ_of_lt ha)), Heap.get?_push_ne _ _ _ (by rw [Heap.size_update]; exact Nat.ne_of_lt ha)]
    exact ho1
  show wpAny (model prog w) A _ P E { s with heap := ((s.heap.update a (Obj.mapSeq fun _ => #[])).push (seqObj "tuple" #[v] 0)).push (seqObj "list" #[] 0) }
  dsimp only
  rw [if_pos (by simp), if_pos (by simp)]
  refine wpAny_bind (wpAny_pure ?_)
  refine wpAny_bind (wpAny_pure ?_)
  dsimp only
  rw [show Array.map (fun x : Keyed => x.2) (arrOf (SortSt.mk' general' (#[v].zip #[v]) #[] 7 none)) = #[v] by show Array.map (fun x : Keyed => x.2) (#[v].zip #[v]) = #[v]; simp]
  refine wpAny_bind (seqEpoch_at ho6 rfl ?_)
  obtain ⟨c2, hc2⟩ : ∃ c2, ((((s.heap.update a (Obj.mapSeq fun _ => #[])).push (seqObj "tuple" #[v] 0)).push (seqObj "list" #[] 0)).update a (Obj.mapSeq fun _ => #[v])).get? a = some (seqObj "list" #[v] c2) := ⟨_, get?_update_seq ho6 fun _ => #[v]⟩
  have keep : ∀ b o, b ≠ a → s.heap.get? b = some o → ((((s.heap.update a (Obj.mapSeq fun _ => #[])).push (seqObj "tuple" #[v] 0)).push (seqObj "list" #[] 0)).update a (Obj.mapSeq fun _ => #[v])).get? b = some o := fun b o hb e => by
    rw [Heap.get?_update_ne _ _ _ _ hb]
    refine Heap.get?_push_of_some _ (Heap.get?_push_of_some _ ?_)
    rw [Heap.get?_update_ne _ _ _ _ hb]; exact e
  refine wpAny_bind (listUpdate_at ho6 rfl ?_ (Nat.zero_le _) (by rw [sizeLine_eq]; simp))
  simp only [bne_self_eq_false, Bool.false_eq_true, if_false]
  exact wpAny_pure (h _ c2 keep hc2)
theorem perm_of_ok {cs : List Cell} {p : Array Nat} (hp : Ok cs.length p) : (p.toList.map fun i => cs.getD i (0, 0, 0)).Perm cs := by
  have h1 : p.toList.Perm (List.range cs.length) := by simpa using hp.perm.toList
  have h2 := h1.map fun i => cs.getD i ((0, 0, 0) : Cell)
  have h3 : (List.range cs.length).map (fun i => cs.getD i ((0, 0, 0) : Cell)) = cs := by
    apply List.ext_getElem (by simp)
    intro i a b
    simp only [List.getElem_map, List.getElem_range]
    simp at a
    simp [a]
  rw [h3] at h2
  exact h2
theorem pairwise_of_up {key : Nat → Int} {n : Nat} {p : Array Nat} (hp : p.size = n) (hu : Up key p n) : p.toList.Pairwise fun i j => key i ≤ key j := by
  rw [List.pairwise_iff_getElem]
  intro i j hi hj hij
  have hi' : i < p.size := by simpa using hi
  have hj' : j < p.size := by simpa using hj
  have := hu.le (Nat.le_of_lt hij) (by omega)
  have e1 : p.getD i 0 = p.toList[i] := by simp [Array.getD, hi']
  have e2 : p.getD j 0 = p.toList[j] := by simp [Array.getD, hj']
  simpa [kk, e1, e2] using this
theorem sorted_cells {l : Addr} {cs : List Cell} {Q : Value → Shared → Prop} (F : Fr h₀ L s.heap m) (N : News h₀ L s.heap news) (hl : s.heap.IsList l (refs cs).toArray) (hc : ∀ c ∈ cs, CellIn h₀ news c) (hk : ∀ c ∈ cs, Kb c) (h1 : 1 ≤ cs.length) (h64 : cs.length < 64)
    (h : ∀ D e h' ws, ws.Perm cs → ws.Pairwise (fun a b => ekey a ≤ ekey b) → Fr h₀ L h' m → News h₀ L h' ((D, listOf (refs ws).toArray e) :: news) → (∀ q ∈ news, q.1 < D) → Q (.ref D) { s with heap := h' }) :
    wpAny (model prog w) A (call (.builtin "sorted") [.ref l]) Q E s := by
  by_cases h2 : 2 ≤ cs.length
  · refine kat_sorted (vs := refs cs) F N hl (by simpa using h2) (by simpa using h64) fun D e1 h' F' N' lt => ?_
    have hc' : ∀ c ∈ cs, CellAt h' c := fun c q => ((hc c q).mono fun _ z => .tail _ z).at F' N'
    refine kind_cells hc' h1 ?_
    obtain ⟨p, r, hp, hu⟩ := run_sort (n := (refs cs).length) (fun i => ekey (cs.getD i (0, 0, 0))) (by simpa using h1)
    have hlen : (refs cs).length = cs.length := by simp
    refine r.wp (fun i j C hi hj hC => ?_) ?_
    · have hi' : i < cs.length := by omega
      have hj' : j < cs.length := by omega
      have ei : (refs cs).getD i Value.none = .ref (cs[i]).1 := by simp [hi']
      have ej : (refs cs).getD j Value.none = .ref (cs[j]).1 := by simp [hj']
      show wpAny _ _ (keyLt' _ _ _) _ _ _
      rw [ei, ej]
      refine keyLt_cells (hc' _ (List.getElem_mem hi')) (hc' _ (List.getElem_mem hj')) ?_
      rw [clt_e (hk _ (List.getElem_mem hi')) (hk _ (List.getElem_mem hj'))]
      simpa [hi', hj'] using hC
    · refine KasFin.intro F' N' (.head fun q hq => Nat.ne_of_lt (lt q hq)) fun h2 c F2 N2 => ?_
      have hw : (p.toList.map fun i => (refs cs).getD i Value.none) = refs (p.toList.map fun i => cs.getD i (0, 0, 0)) := by
        show _ = List.map _ (List.map _ _)
        rw [List.map_map]
        refine List.map_congr_left fun i hi => ?_
        have hm : i ∈ (List.range (refs cs).length).toArray := hp.perm.mem_iff.mp (by simpa using hi)
        have hi' : i < cs.length := by simpa using hm
        simp [hi']
      rw [hw] at N2
      refine h D c h2 _ (perm_of_ok (by rw [← hlen]; exact hp)) ?_ F2 N2 lt
      have := pairwise_of_up hp.size hu
      rw [List.pairwise_map]
      exact this
  · match cs, h1, h2, hl, h with
    | [c], _, _, hl, h =>
      refine Calls.call_function_entry kind_sorted plain_sorted entry_sorted (args_sorted1 _) ?_
      unfold Builtin.«sorted»
      refine wpAny_bind (m := checkCount "sorted" 1 1 _) (wpAny_pure ?_)
      refine wpAny_bind (collect_list (vs := [.ref c.1]) hl ?_ (by rw [sizeLine_eq]; simp))
      refine wpAny_bind (wpAny_newList ?_ (by rw [sizeLine_eq]; simp))
      have hsz : ((s.heap.push (seqObj "list" #[] 0)).update s.heap.objs.size (Obj.mapSeq (· ++ [Value.ref c.1].toArray))).objs.size = s.heap.objs.size + 1 := by
        rw [Heap.size_update, size_push']
      have hoL : (((s.heap.push (seqObj "list" #[] 0)).update s.heap.objs.size (Obj.mapSeq (· ++ [Value.ref c.1].toArray))).push (seqObj "list" [Value.ref c.1].toArray 0)).get? (s.heap.objs.size + 1) = some (seqObj "list" [Value.ref c.1].toArray 0) := by
        rw [← hsz]; exact Heap.get?_push_size _ rfl
      have keep : ∀ b o, s.heap.get? b = some o → (((s.heap.push (seqObj "list" #[] 0)).update s.heap.objs.size (Obj.mapSeq (· ++ [Value.ref c.1].toArray))).push (seqObj "list" [Value.ref c.1].toArray 0)).get? b = some o := fun b o q => by
        have hlt : b < s.heap.objs.size := Heap.lt_size q
        rw [Heap.get?_push_ne _ _ _ (by rw [hsz]; exact Nat.ne_of_lt (Nat.lt_succ_of_lt hlt)), Heap.get?_update_ne _ _ _ _ (Nat.ne_of_lt hlt), Heap.get?_push_ne _ _ _ (Nat.ne_of_lt hlt)]
        exact q
      have hL : L < s.heap.objs.size := F.ns.lt
      show wpAny _ _ _ _ _ { s with heap := ((s.heap.push (seqObj "list" #[] 0)).update s.heap.objs.size (Obj.mapSeq (· ++ [Value.ref c.1].toArray))).push (seqObj "list" [Value.ref c.1].toArray 0) }
      rw [hsz]
      refine wpAny_bind (wpAny_holding (wpAny_call_entry slot_list_sort ⟨_, hoL, rfl⟩ entry_list_sort ?body (args_list_sort _)))
      case body =>
        refine list_sort_one (s := { s with heap := ((s.heap.push (seqObj "list" #[] 0)).update s.heap.objs.size (Obj.mapSeq (· ++ [Value.ref c.1].toArray))).push (seqObj "list" [Value.ref c.1].toArray 0) }) hoL fun h' e k e' => ?_
        have k2 : ∀ b o, s.heap.get? b = some o → h'.get? b = some o := fun b o q => k b o (Nat.ne_of_lt (Nat.lt_succ_of_lt (Heap.lt_size q))) (keep b o q)
        have fresh : h₀.get? (s.heap.objs.size + 1) = none := Heap.get?_none_of_le (Nat.le_trans F.above (Nat.le_succ_of_le (Nat.le_of_lt hL)))
        refine ⟨_, rfl, wpAny_pure ⟨_, rfl, ?_⟩⟩
        refine h (s.heap.objs.size + 1) e h' [c] (List.Perm.refl _) (List.pairwise_singleton _ _) (F.kept k2) (fun q hq => ?_) fun q hq => Nat.lt_succ_of_lt (Heap.lt_size (N q hq).1)
        rcases List.mem_cons.mp hq with rfl | hq
        · exact ⟨e', Nat.ne_of_gt (Nat.lt_succ_of_lt hL), fresh⟩
        · exact (N.grown k2) q hq
    | [], h1, _, _, _ => simp at h1
    | _ :: _ :: _, _, h2, _, _ => simp at h2
end
end Mj
end
section
open PySem PySem.W PyProof.Rows PySem.Calls PySem.Spec
namespace Mj
/-! ## lists of pairs as data -/
abbrev pd (q : Int × Int) : PyData := .tuple [.int q.1, .int q.2]
abbrev rowD (ks : List (Int × Int)) : PyData := .list (ks.map pd)
abbrev rowsD (rs : List (List (Int × Int))) : PyData := .list (rs.map rowD)
section
variable {h : Heap}
theorem reads_cell {c : Cell} (hc : CellAt h c) : Reads h (.ref c.1) (pd c.2) [] := by
  obtain ⟨t, u, n, e⟩ := hc
  exact .tuple e rfl rfl (.cons (.int _ _) (.cons (.int _ _) .nil))
theorem reads_cells : ∀ {cs : List Cell}, (∀ c ∈ cs, CellAt h c) → ReadsAll h (refs cs) ((cs.map (·.2)).map pd) []
  | [], _ => .nil
  | c :: r, hc => .cons (reads_cell (hc c (.head _))) (reads_cells fun d hd => hc d (.tail _ hd))
theorem reads_row {a : Addr} {cs : List Cell} (ha : h.IsList a (refs cs).toArray) (hc : ∀ c ∈ cs, CellAt h c) : Reads h (.ref a) (rowD (cs.map (·.2))) [a] := by
  obtain ⟨o, e, c, n, d⟩ := ha
  exact .list e c d (by simpa using reads_cells hc)
theorem depth_pds : ∀ ks : List (Int × Int), PyData.depthAll (ks.map pd) ≤ 1
  | [] => by simp [PyData.depthAll]
  | q :: r => by
    have := depth_pds r
    simp [PyData.depthAll, PyData.depth, pd] at this ⊢
    omega
theorem can_pds : ∀ ks : List (Int × Int), PyData.canLayAll0 (ks.map pd) = true
  | [] => rfl
  | q :: r => by simp [PyData.canLayAll0, PyData.canLay0, pd, can_pds r]
theorem depth_rows : ∀ rs : List (List (Int × Int)), PyData.depthAll (rs.map rowD) ≤ 2
  | [] => by simp [PyData.depthAll]
  | q :: r => by
    have := depth_rows r
    have := depth_pds q
    simp [PyData.depthAll, PyData.depth] at *
    omega
theorem can_rows : ∀ rs : List (List (Int × Int)), PyData.canLayAll0 (rs.map rowD) = true
  | [] => rfl
  | q :: r => by
    have := can_pds q
    simp [PyData.canLayAll0, PyData.canLay0, can_rows r, this]
theorem shaped_row (ks : List (Int × Int)) : SeqAt.shaped (rowD ks) = true := by
  have h1 := depth_pds ks
  have h2 := can_pds ks
  refine Bool.and_eq_true_iff.mpr ⟨by rw [PyData.canLay0]; exact h2, decide_eq_true ?_⟩
  rw [PyData.depth]; omega
theorem shaped_rows (rs : List (List (Int × Int))) : SeqAt.shaped (rowsD rs) = true := by
  have h1 := depth_rows rs
  have h2 := can_rows rs
  refine Bool.and_eq_true_iff.mpr ⟨by rw [PyData.canLay0]; exact h2, decide_eq_true ?_⟩
  rw [PyData.depth]; omega
theorem eqv_pds : ∀ ks : List (Int × Int), PyData.eqvAll (ks.map pd) (ks.map pd) = true
  | [] => by simp [PyData.eqvAll]
  | q :: r => by simp [PyData.eqvAll, PyData.eqv, eqv_pds r]
theorem eqv_rows : ∀ rs : List (List (Int × Int)), PyData.eqvAll (rs.map rowD) (rs.map rowD) = true
  | [] => by simp [PyData.eqvAll]
  | q :: r => by
    have := eqv_pds q
    simp only [List.map_cons, PyData.eqvAll, PyData.eqv, eqv_rows r, this, Bool.and_self]
end
section
variable {prog : Program} {w : World} {A : Around} {E : Value → Shared → Prop} {s : Shared} {Q : Value → Shared → Prop}
theorem ne_cells {a b : Addr} {cs ds : List Cell} (ha : s.heap.IsList a (refs cs).toArray) (hb : s.heap.IsList b (refs ds).toArray) (hc : ∀ c ∈ cs, CellAt s.heap c) (hd : ∀ c ∈ ds, CellAt s.heap c) (e : cs.map (·.2) = ds.map (·.2)) (hu : A.units + 64 < cLine) (h : Q (.bool false) s) :
    wpAny (model prog w) A (compareOp .NotEq (.ref a) (.ref b)) Q E s := by
  refine ne_dataH (reads_row ha hc) (reads_row hb hd) (shaped_row _) (shaped_row _) hu ?_
  rw [e]
  simp only [PyData.eqv, eqv_pds, Bool.not_true]
  exact h
theorem ne_nil {a b : Addr} {cs : List Cell} (ha : s.heap.IsList a (refs cs).toArray) (hb : s.heap.IsList b #[]) (hc : ∀ c ∈ cs, CellAt s.heap c) (hu : A.units + 64 < cLine) (h : Q (.bool (!cs.isEmpty)) s) :
    wpAny (model prog w) A (compareOp .NotEq (.ref a) (.ref b)) Q E s := by
  refine ne_dataH (reads_row ha hc) (reads_row (cs := []) hb (fun _ q => nomatch q)) (shaped_row _) (shaped_row _) hu ?_
  cases cs with
  | nil => simpa [PyData.eqv, PyData.eqvAll] using h
  | cons c r => simpa [PyData.eqv, PyData.eqvAll] using h
theorem eq_rows {a b : Addr} {rs : List (List (Int × Int))} {x y : List Addr} (ra : Reads s.heap (.ref a) (rowsD rs) x) (rb : Reads s.heap (.ref b) (rowsD rs) y) (hu : A.units + 64 < cLine) (h : Q (.bool true) s) :
    wpAny (model prog w) A (compareOp .Eq (.ref a) (.ref b)) Q E s := by
  refine eq_dataH ra rb (shaped_rows _) (shaped_rows _) hu ?_
  simp only [PyData.eqv, eqv_rows]
  exact h
end
end Mj
end
section
open PySem PySem.W PyProof.Rows PySem.Calls PySem.Spec
namespace Mj
/-! ## the plain law, I: one pass -/
/-- fewer than r of those ahead are greater -/
def thru (r : Nat) (pre : List Cell) (x : Cell) : Bool := decide ((pre.filter fun y => decide (ekey x < ekey y)).length < r)
def splitP (r : Nat) : List Cell → List Cell → List Cell × List Cell
  | _, [] => ([], [])
  | pre, x :: t => if thru r pre x then (x :: (splitP r (pre ++ [x]) t).1, (splitP r (pre ++ [x]) t).2) else ((splitP r (pre ++ [x]) t).1, x :: (splitP r (pre ++ [x]) t).2)
/-- the heap holds the r greatest of what has been laid in, the least of them first -/
structure HInv (r : Nat) (base : Cell) (pre hs : List Cell) : Prop where
  len : hs.length = r
  least : ∀ b ∈ hs, ekey (root hs) ≤ ekey b
  rest : ∃ rest : List Cell, (hs ++ rest).Perm (List.replicate r base ++ pre) ∧ ∀ a ∈ hs, ∀ b ∈ rest, ekey b ≤ ekey a
theorem pushL_perm {hs : List Cell} {x : Cell} (h1 : 1 ≤ hs.length) (h3 : hs.length ≤ 3) : (root hs :: pushL hs x).Perm (x :: hs) := by
  match hs, h1, h3 with
  | [a], _, _ => simp only [pushL, root]; exact List.Perm.swap _ _ _
  | [a, b], _, _ =>
    simp only [pushL, root]; split
    · exact List.Perm.swap _ _ _
    · exact (List.Perm.cons _ (List.Perm.swap _ _ _)).trans (List.Perm.swap _ _ _)
  | [a, b, c], _, _ =>
    simp only [pushL, root]
    have p1 : [a, x, b, c].Perm [x, a, b, c] := List.Perm.swap _ _ _
    split
    · split
      · exact p1
      · exact (List.Perm.cons _ (List.Perm.swap _ _ _)).trans p1
    · split
      · exact p1
      · refine List.Perm.trans (List.Perm.cons a (?_ : [c, b, x].Perm [x, b, c])) p1
        have q1 : [c, b, x].Perm [b, c, x] := List.Perm.swap _ _ _
        have q2 : [b, c, x].Perm [b, x, c] := .cons _ (List.Perm.swap _ _ _)
        have q3 : [b, x, c].Perm [x, b, c] := List.Perm.swap _ _ _
        exact q1.trans (q2.trans q3)
  | [], h1, _ => simp at h1
  | _ :: _ :: _ :: _ :: _, _, h3 => simp at h3
theorem pushL_least {hs : List Cell} {x : Cell} (h1 : 1 ≤ hs.length) (h3 : hs.length ≤ 3) (hk : ∀ c ∈ hs, Kb c) (hx : Kb x) : ∀ b ∈ pushL hs x, ekey (root (pushL hs x)) ≤ ekey b := by
  match hs, h1, h3, hk with
  | [a], _, _, _ => simp [pushL, root]
  | [a, b], _, _, hk =>
    have e1 := clt_e hx (hk b (by simp))
    simp only [pushL]
    split <;> rename_i c <;> rw [e1] at c <;> simp only [decide_eq_true_eq] at c <;> intro d hd <;> simp only [List.mem_cons, List.not_mem_nil, or_false] at hd <;> simp only [root] <;> rcases hd with rfl | rfl <;> omega
  | [a, b, d], _, _, hk =>
    have e1 := clt_e hx (hk b (by simp))
    have e2 := clt_e hx (hk d (by simp))
    have e3 := clt_e (hk b (by simp)) (hk d (by simp))
    simp only [pushL]
    split <;> rename_i c <;> rw [e3] at c <;> simp only [decide_eq_true_eq] at c
    · split <;> rename_i c' <;> rw [e1] at c' <;> simp only [decide_eq_true_eq] at c' <;> intro f hf <;> simp only [List.mem_cons, List.not_mem_nil, or_false] at hf <;> simp only [root] <;> rcases hf with rfl | rfl | rfl <;> omega
    · split <;> rename_i c' <;> rw [e2] at c' <;> simp only [decide_eq_true_eq] at c' <;> intro f hf <;> simp only [List.mem_cons, List.not_mem_nil, or_false] at hf <;> simp only [root] <;> rcases hf with rfl | rfl | rfl <;> omega
  | [], h1, _, _ => simp at h1
  | _ :: _ :: _ :: _ :: _, _, h3, _ => simp at h3
theorem root_mem {hs : List Cell} (h1 : 1 ≤ hs.length) : root hs ∈ hs := by
  match hs, h1 with
  | a :: r, _ => exact .head _
theorem filter_len_perm {l l' : List Cell} (p : Cell → Bool) (h : l.Perm l') : (l.filter p).length = (l'.filter p).length := (h.filter p).length_eq
section
variable {r : Nat} {base : Cell} {pre hs : List Cell} {x : Cell}
theorem HInv.mem (I : HInv r base pre hs) {c : Cell} (h : c ∈ hs) : c = base ∨ c ∈ pre := by
  obtain ⟨rest, p, _⟩ := I.rest
  rcases List.mem_append.mp (p.mem_iff.mp (List.mem_append.mpr (.inl h))) with q | q
  · exact .inl (List.eq_of_mem_replicate q)
  · exact .inr q
theorem HInv.thru (I : HInv r base pre hs) (h1 : 1 ≤ r) (hb : ekey base < ekey x) (hd : ∀ c ∈ pre, ekey c ≠ ekey x) : decide (ekey (root hs) < ekey x) = Mj.thru r pre x := by
  have hl := I.len
  have hr : root hs ∈ hs := root_mem (by omega)
  unfold Mj.thru
  refine decide_eq_decide.mpr ?_
  obtain ⟨rest, p, hle⟩ := I.rest
  have cnt : (pre.filter fun y => decide (ekey x < ekey y)).length = (hs.filter fun y => decide (ekey x < ekey y)).length + (rest.filter fun y => decide (ekey x < ekey y)).length := by
    have := filter_len_perm (fun y => decide (ekey x < ekey y)) p
    rw [List.filter_append, List.filter_append, List.length_append, List.length_append] at this
    have z : (List.replicate r base).filter (fun y => decide (ekey x < ekey y)) = [] := by
      rw [List.filter_eq_nil_iff]
      intro c hc; rw [List.eq_of_mem_replicate hc]; simp; omega
    rw [z] at this; simpa using this.symm
  constructor
  · intro c
    have z : rest.filter (fun y => decide (ekey x < ekey y)) = [] := by
      rw [List.filter_eq_nil_iff]
      intro b hb'; have := hle _ hr b hb'; simp; omega
    have : (hs.filter fun y => decide (ekey x < ekey y)).length < hs.length := by
      refine List.length_filter_lt_length_iff_exists.mpr ⟨root hs, hr, ?_⟩
      simp; omega
    rw [cnt, z]; simp; omega
  · intro c
    refine Classical.byContradiction fun d => ?_
    have : hs.filter (fun y => decide (ekey x < ekey y)) = hs := by
      rw [List.filter_eq_self]
      intro b hb'
      have h2 := I.least b hb'
      have h3 : ekey b ≠ ekey x := (I.mem hb').elim (fun e => by rw [e]; omega) (hd b)
      simp; omega
    rw [this] at cnt
    omega
theorem HInv.step (I : HInv r base pre hs) (h1 : 1 ≤ r) (h3 : r ≤ 3) (hk : ∀ c ∈ hs, Kb c) (hx : Kb x) : HInv r base (pre ++ [x]) (ppL hs x) := by
  have hl := I.len
  have hr : root hs ∈ hs := root_mem (by omega)
  obtain ⟨rest, p, hle⟩ := I.rest
  have pe : ppL hs x = if clt (root hs) x then pushL hs x else hs := by
    match hs, hl with
    | [], hl => simp at hl; omega
    | a :: t, _ => rfl
  have e := clt_e (hk _ hr) hx
  refine ⟨by rw [ppL_length]; exact hl, ?_, ?_⟩
  · rw [pe]
    split
    · exact pushL_least (by omega) (by omega) hk hx
    · exact I.least
  · rw [pe]
    split <;> rename_i c <;> rw [e] at c <;> simp only [decide_eq_true_eq] at c
    · have pp := pushL_perm (x := x) (hs := hs) (by omega) (by omega)
      refine ⟨root hs :: rest, ?_, ?_⟩
      · have a1 : (pushL hs x ++ root hs :: rest).Perm (root hs :: pushL hs x ++ rest) := by
          exact List.perm_middle
        have a2 : (root hs :: pushL hs x ++ rest).Perm (x :: hs ++ rest) := pp.append_right rest
        have a3 : (x :: hs ++ rest).Perm (x :: (List.replicate r base ++ pre)) := by
          exact List.Perm.cons x p
        have a4 : (x :: (List.replicate r base ++ pre)).Perm (List.replicate r base ++ (pre ++ [x])) := by
          rw [← List.append_assoc]
          exact (List.perm_append_singleton x _).symm
        exact a1.trans (a2.trans (a3.trans a4))
      · intro a ha b hb
        have ha' : a = root hs ∨ a ∈ root hs :: pushL hs x := .inr (.tail _ ha)
        have hax : a ∈ x :: hs := pp.mem_iff.mp (.tail _ ha)
        have hra : ekey (root hs) ≤ ekey a := by
          rcases List.mem_cons.mp hax with rfl | q
          · omega
          · exact I.least a q
        rcases List.mem_cons.mp hb with rfl | q
        · exact hra
        · exact Int.le_trans (hle _ hr b q) hra
    · refine ⟨x :: rest, ?_, ?_⟩
      · have a1 : (hs ++ x :: rest).Perm (x :: (hs ++ rest)) := List.perm_middle
        have a2 : (x :: (hs ++ rest)).Perm (x :: (List.replicate r base ++ pre)) := List.Perm.cons x p
        have a4 : (x :: (List.replicate r base ++ pre)).Perm (List.replicate r base ++ (pre ++ [x])) := by
          rw [← List.append_assoc]
          exact (List.perm_append_singleton x _).symm
        exact a1.trans (a2.trans a4)
      · intro a ha b hb
        rcases List.mem_cons.mp hb with rfl | q
        · have := I.least a ha; omega
        · exact hle a ha b q
theorem HInv.start (h1 : 1 ≤ r) : HInv r base [] (List.replicate r base) := by
  refine ⟨List.length_replicate, ?_, [], by simp, fun _ _ _ h => nomatch h⟩
  intro b hb
  have hr : root (List.replicate r base) ∈ List.replicate r base := root_mem (by rw [List.length_replicate]; exact h1)
  rw [List.eq_of_mem_replicate hb, List.eq_of_mem_replicate hr]
  exact Int.le_refl _
theorem fold_split (h1 : 1 ≤ r) (h3 : r ≤ 3) (hbk : Kb base) : ∀ (row pre hs yes no : List Cell), HInv r base pre hs → (∀ c ∈ pre ++ row, Kb c ∧ ekey base < ekey c) → ((pre ++ row).map ekey).Nodup →
    HInv r base (pre ++ row) (row.foldl stp (hs, yes, no)).1 ∧ (row.foldl stp (hs, yes, no)).2 = (yes ++ (splitP r pre row).1, no ++ (splitP r pre row).2)
  | [], pre, hs, yes, no, I, _, _ => by simpa [splitP] using I
  | x :: t, pre, hs, yes, no, I, hk, hn => by
    have hx : Kb x ∧ ekey base < ekey x := hk x (by simp)
    have hd : ∀ c ∈ pre, ekey c ≠ ekey x := fun c hc e => by
      rw [List.map_append, List.nodup_append] at hn
      exact hn.2.2 (ekey c) (List.mem_map_of_mem hc) (ekey x) (by simp) e
    have hkh : ∀ c ∈ hs, Kb c := fun c hc => (I.mem hc).elim (fun e => by rw [e]; exact hbk) fun q => (hk c (List.mem_append.mpr (.inl q))).1
    have hl := I.len
    have hr : root hs ∈ hs := root_mem (by omega)
    have ht : clt (root hs) x = Mj.thru r pre x := by rw [clt_e (hkh _ hr) hx.1]; exact I.thru h1 hx.2 hd
    have e : (pre ++ [x]) ++ t = pre ++ x :: t := by simp
    obtain ⟨J, S⟩ := fold_split h1 h3 hbk t (pre ++ [x]) (ppL hs x) (if clt (root hs) x then yes ++ [x] else yes) (if clt (root hs) x then no else no ++ [x]) (I.step h1 h3 hkh hx.1) (by rw [e]; exact hk) (by rw [e]; exact hn)
    rw [e] at J
    rw [List.foldl_cons]
    refine ⟨J, S.trans ?_⟩
    rw [ht]
    simp only [splitP]
    split <;> simp
end
theorem ekey_inj {a b : Cell} (ha : Kb a) (hb : Kb b) (e : ekey a = ekey b) : a.2 = b.2 := by
  obtain ⟨a0, a1, a2⟩ := a
  obtain ⟨b0, b1, b2⟩ := b
  simp only [Kb, ekey] at *
  exact Prod.ext (by show a1 = b1; omega) (by show a2 = b2; omega)
theorem map_of_keys : ∀ {as bs : List Cell}, (∀ c ∈ as, Kb c) → (∀ c ∈ bs, Kb c) → as.map ekey = bs.map ekey → as.map (·.2) = bs.map (·.2)
  | [], [], _, _, _ => rfl
  | [], _ :: _, _, _, e => by cases e
  | _ :: _, [], _, _, e => by cases e
  | a :: r, b :: t, ha, hb, e => by
    simp only [List.map_cons, List.cons.injEq] at e ⊢
    exact ⟨ekey_inj (ha a (.head _)) (hb b (.head _)) e.1, map_of_keys (fun c h => ha c (.tail _ h)) (fun c h => hb c (.tail _ h)) e.2⟩
theorem heap_check {r : Nat} {ta tb : Addr} {row ws1 ws2 : List Cell} (h1 : 1 ≤ r) (h3 : r ≤ 3) (hk : ∀ c ∈ row, Kb c ∧ -100 < ekey c) (hn : (row.map ekey).Nodup)
    (p1 : ws1.Perm (row.foldl stp (List.replicate r (ta, -1, 0), [], [])).1) (s1 : ws1.Pairwise fun a b => ekey a ≤ ekey b) (p2 : ws2.Perm (List.replicate r (tb, -1, 0) ++ row)) (s2 : ws2.Pairwise fun a b => ekey a ≤ ekey b) :
    ws1.map (·.2) = (ws2.drop (ws2.length - r)).map (·.2) := by
  have hbk : ∀ a : Addr, Kb (a, -1, 0) := fun a => ⟨by show (-50 : Int) < 0; decide, by show (0 : Int) ≤ 0; decide⟩
  have hbe : ∀ a : Addr, ekey (a, -1, 0) = -100 := fun a => by show 100 * (-1 : Int) + 0 = -100; decide
  obtain ⟨I, _⟩ := fold_split (base := (ta, -1, 0)) h1 h3 (hbk ta) row [] (List.replicate r (ta, -1, 0)) [] [] (HInv.start h1) (fun c hc => ⟨(hk c (by simpa using hc)).1, by rw [hbe]; exact (hk c (by simpa using hc)).2⟩) (by simpa using hn)
  rw [List.nil_append] at I
  obtain ⟨rest, p, hle⟩ := I.rest
  have k1 : ∀ c ∈ ws1, Kb c := fun c hc => (I.mem (p1.mem_iff.mp hc)).elim (fun e => by rw [e]; exact hbk ta) fun q => (hk c q).1
  have k2 : ∀ c ∈ ws2, Kb c := fun c hc => (List.mem_append.mp (p2.mem_iff.mp hc)).elim (fun q => by rw [List.eq_of_mem_replicate q]; exact hbk tb) fun q => (hk c q).1
  refine map_of_keys k1 (fun c hc => k2 c (List.mem_of_mem_drop hc)) ?_
  have sR : ((rest.map ekey).mergeSort fun a b => decide (a ≤ b)).Pairwise (· ≤ ·) := by
    have := List.pairwise_mergeSort (le := fun a b : Int => decide (a ≤ b)) (fun a b c h1 h2 => by simp at *; omega) (fun a b => by simp; omega) (rest.map ekey)
    exact this.imp fun h => by simpa using h
  have pR := List.mergeSort_perm (rest.map ekey) fun a b : Int => decide (a ≤ b)
  have sW1 : (ws1.map ekey).Pairwise (· ≤ ·) := List.pairwise_map.mpr s1
  have sW2 : (ws2.map ekey).Pairwise (· ≤ ·) := List.pairwise_map.mpr s2
  have pk : (ws2.map ekey).Perm (((rest.map ekey).mergeSort fun a b => decide (a ≤ b)) ++ ws1.map ekey) := by
    have a1 := p2.map ekey
    have a2 := p.map ekey
    have a3 := p1.map ekey
    have e : (List.replicate r ((tb, -1, 0) : Cell) ++ row).map ekey = (List.replicate r ((ta, -1, 0) : Cell) ++ row).map ekey := by
      simp only [List.map_append, List.map_replicate, hbe]
    rw [e] at a1
    refine a1.trans (a2.symm.trans ?_)
    rw [List.map_append]
    refine List.perm_append_comm.trans ?_
    exact List.Perm.append pR.symm a3.symm
  have sA : (((rest.map ekey).mergeSort fun a b => decide (a ≤ b)) ++ ws1.map ekey).Pairwise (· ≤ ·) := by
    rw [List.pairwise_append]
    refine ⟨sR, sW1, fun a ha b hb => ?_⟩
    obtain ⟨c, hc, rfl⟩ := List.mem_map.mp (pR.mem_iff.mp ha)
    obtain ⟨d, hd, rfl⟩ := List.mem_map.mp hb
    exact hle d (p1.mem_iff.mp hd) c hc
  have eq := lks_uniq pk sW2 sA
  have hl1 : ws1.length = r := by rw [p1.length_eq]; exact I.len
  have hl2 : ws2.length = (rest.map ekey).length + r := by
    have := congrArg List.length eq
    rw [List.length_map, List.length_append, List.length_map, List.length_mergeSort] at this
    omega
  rw [List.map_drop, eq, hl2]
  rw [List.drop_append]
  simp
theorem split_fold {r : Nat} {ta : Addr} {row : List Cell} (h1 : 1 ≤ r) (h3 : r ≤ 3) (hk : ∀ c ∈ row, Kb c ∧ -100 < ekey c) (hn : (row.map ekey).Nodup) : (row.foldl stp (List.replicate r (ta, -1, 0), [], [])).2 = splitP r [] row := by
  have hbk : ∀ a : Addr, Kb (a, -1, 0) := fun a => ⟨by show (-50 : Int) < 0; decide, by show (0 : Int) ≤ 0; decide⟩
  have hbe : ∀ a : Addr, ekey (a, -1, 0) = -100 := fun a => by show 100 * (-1 : Int) + 0 = -100; decide
  obtain ⟨_, S⟩ := fold_split (base := (ta, -1, 0)) h1 h3 (hbk ta) row [] (List.replicate r (ta, -1, 0)) [] [] (HInv.start h1) (fun c hc => ⟨(hk c (by simpa using hc)).1, by rw [hbe]; exact (hk c (by simpa using hc)).2⟩) (by simpa using hn)
  rw [S]; simp
end Mj
end
section
open PySem PySem.W PyProof.Rows PySem.Calls PySem.Spec
namespace Mj
/-! ## the plain law, II: ranks -/
def aheadL (r : Nat) (a : List (Cell × Int)) (x : Cell) : List Int := List.replicate r 0 ++ (a.filter fun q => decide (ekey x < ekey q.1)).map (·.2)
def kth (r : Nat) (l : List Int) : Int := (l.mergeSort fun a b => decide (a ≤ b)).getD (l.length - r) 0
def rankOf (r : Nat) (a : List (Cell × Int)) (x : Cell) : Int := 1 + kth r (aheadL r a x)
def rstep (r : Nat) (a : List (Cell × Int)) (x : Cell) : List (Cell × Int) := a ++ [(x, rankOf r a x)]
def prs (r : Nat) (row : List Cell) : List (Cell × Int) := row.foldl (rstep r) []
theorem prs_snoc (r : Nat) (row : List Cell) (x : Cell) : prs r (row ++ [x]) = prs r row ++ [(x, rankOf r (prs r row) x)] := by
  unfold prs; rw [List.foldl_append]; rfl
theorem rfold_fst (r : Nat) : ∀ (row : List Cell) (a : List (Cell × Int)), (row.foldl (rstep r) a).map (·.1) = a.map (·.1) ++ row
  | [], a => by simp
  | x :: t, a => by rw [List.foldl_cons, rfold_fst r t]; simp [rstep]
theorem prs_fst (r : Nat) (row : List Cell) : (prs r row).map (·.1) = row := by
  unfold prs; rw [rfold_fst]; simp
theorem prs_length (r : Nat) (row : List Cell) : (prs r row).length = row.length := by
  have := congrArg List.length (prs_fst r row)
  rwa [List.length_map] at this
theorem kth_of_sorted {r : Nat} {l s : List Int} (p : s.Perm l) (h : s.Pairwise (· ≤ ·)) : kth r l = s.getD (s.length - r) 0 := by
  have sR : (l.mergeSort fun a b => decide (a ≤ b)).Pairwise (· ≤ ·) := by
    have := List.pairwise_mergeSort (le := fun a b : Int => decide (a ≤ b)) (fun a b c h1 h2 => by simp at *; omega) (fun a b => by simp; omega) l
    exact this.imp fun h => by simpa using h
  have pR := List.mergeSort_perm l fun a b : Int => decide (a ≤ b)
  have e := lks_uniq (pR.trans p.symm) sR h
  unfold kth
  rw [e, p.length_eq]
theorem kth_lt {r : Nat} {l : List Int} {q : Int} (h1 : 1 ≤ r) (hr : r ≤ l.length) : kth r l < q ↔ (l.filter fun a => decide (q ≤ a)).length < r := by
  have sR : (l.mergeSort fun a b => decide (a ≤ b)).Pairwise (· ≤ ·) := by
    have := List.pairwise_mergeSort (le := fun a b : Int => decide (a ≤ b)) (fun a b c h1 h2 => by simp at *; omega) (fun a b => by simp; omega) l
    exact this.imp fun h => by simpa using h
  have pR := List.mergeSort_perm l fun a b : Int => decide (a ≤ b)
  have hl : (l.mergeSort fun a b => decide (a ≤ b)).length = l.length := pR.length_eq
  have hc : (l.filter fun a => decide (q ≤ a)).length = ((l.mergeSort fun a b => decide (a ≤ b)).filter fun a => decide (q ≤ a)).length := ((pR.filter _).length_eq).symm
  unfold kth
  rw [hc, ← hl]
  generalize (l.mergeSort fun a b => decide (a ≤ b)) = S at *
  have hi : S.length - r < S.length := by omega
  have e0 : S.getD (S.length - r) 0 = S[S.length - r] := by simp [hi]
  rw [e0]
  have esp : S = S.take (S.length - r) ++ S[S.length - r] :: S.drop (S.length - r + 1) := by
    have := List.take_append_drop (S.length - r) S
    rw [List.drop_eq_getElem_cons hi] at this
    exact this.symm
  have hle1 : ∀ a ∈ S.take (S.length - r), a ≤ S[S.length - r] := by
    intro a ha
    have := sR
    rw [esp, List.pairwise_append] at this
    exact this.2.2 a ha _ (.head _)
  have hle2 : ∀ a ∈ S.drop (S.length - r + 1), S[S.length - r] ≤ a := by
    intro a ha
    have := sR
    rw [esp, List.pairwise_append] at this
    exact (List.pairwise_cons.mp this.2.1).1 a ha
  have hd : (S.drop (S.length - r + 1)).length = r - 1 := by rw [List.length_drop]; omega
  generalize hv : S[S.length - r] = v at *
  rw [esp, List.filter_append, List.length_append, List.filter_cons]
  constructor
  · intro c
    have z : (S.take (S.length - r)).filter (fun a => decide (q ≤ a)) = [] := by
      rw [List.filter_eq_nil_iff]; intro a ha; have := hle1 a ha; simp; omega
    have y : ((S.drop (S.length - r + 1)).filter fun a => decide (q ≤ a)).length ≤ r - 1 := hd ▸ List.length_filter_le _ _
    rw [z, if_neg (by simp; omega)]; simp; omega
  · intro c
    refine Classical.byContradiction fun d => ?_
    have z : (S.drop (S.length - r + 1)).filter (fun a => decide (q ≤ a)) = S.drop (S.length - r + 1) := by
      rw [List.filter_eq_self]; intro a ha; have := hle2 a ha; simp; omega
    rw [z, if_pos (by simp; omega), List.length_cons, hd] at c
    omega
theorem kth_mem {r : Nat} {l : List Int} (h1 : 1 ≤ r) (hr : r ≤ l.length) : kth r l ∈ l := by
  have pR := List.mergeSort_perm l fun a b : Int => decide (a ≤ b)
  refine pR.mem_iff.mp ?_
  have hl : (l.mergeSort fun a b => decide (a ≤ b)).length = l.length := pR.length_eq
  unfold kth
  rw [← hl] at hr ⊢
  generalize (l.mergeSort fun a b => decide (a ≤ b)) = S at *
  have hi : S.length - r < S.length := by omega
  have e0 : S.getD (S.length - r) 0 = S[S.length - r] := by simp [hi]
  rw [e0]
  exact List.getElem_mem hi
theorem rfold_bounds {r : Nat} (h1 : 1 ≤ r) : ∀ (row : List Cell) (a : List (Cell × Int)), (∀ q ∈ a, 1 ≤ q.2 ∧ q.2 ≤ a.length) → ∀ q ∈ row.foldl (rstep r) a, 1 ≤ q.2 ∧ q.2 ≤ (row.foldl (rstep r) a).length
  | [], a, h => h
  | x :: t, a, h => by
    rw [List.foldl_cons]
    refine rfold_bounds h1 t _ fun q hq => ?_
    unfold rstep at hq ⊢
    rw [List.length_append, List.length_singleton]
    rcases List.mem_append.mp hq with hq | hq
    · have := h q hq; omega
    · rw [List.mem_singleton.mp hq]
      have hm := kth_mem (r := r) (l := aheadL r a x) h1 (by unfold aheadL; rw [List.length_append, List.length_replicate]; omega)
      have : 0 ≤ kth r (aheadL r a x) ∧ kth r (aheadL r a x) ≤ a.length := by
        rcases List.mem_append.mp hm with hm | hm
        · have := (List.mem_replicate.mp hm).2; omega
        · obtain ⟨q', hq', e⟩ := List.mem_map.mp hm
          have := h q' (List.mem_filter.mp hq').1
          rw [← e]; omega
      show 1 ≤ rankOf r a x ∧ rankOf r a x ≤ _
      unfold rankOf; omega
theorem prs_bounds {r : Nat} (h1 : 1 ≤ r) (row : List Cell) : ∀ q ∈ prs r row, 1 ≤ q.2 ∧ q.2 ≤ row.length := by
  have := rfold_bounds h1 row [] (fun q h => nomatch h)
  rw [show (row.foldl (rstep r) []).length = row.length from prs_length r row] at this
  exact this
end Mj
end
section
open PySem PySem.W PyProof.Rows PySem.Calls
namespace Mj
theorem fill_k5 : PySem.Challenge.rw_mj0069_01 = PySem.Challenge.rw_mj0069_01 ∧ hd.heap_39 = hd.heap_39 := by
  k_fill
  exact ⟨rfl, rfl⟩
/-- the table of the code of _law_one_pass: empty, or with the lambda's own code -/
def TabIs (h : Heap) (ps : Array Value) : Prop := ps = #[] ∨ ∃ c' oc vs t, ps = #[rawInt 45, rawInt 29, .ref c'] ∧ h.get? c' = some oc ∧ oc.data = .fields vs ∧ vs[1]? = some (.str (Str.ofString "_law_one_pass" ++ ".<locals>." ++ "<lambda>") t)
section
variable {prog : Program} {w : World} {A : Around} {E : Value → Shared → Prop} {s : Shared} {h₀ : Heap} {L : Addr} {m : Str → Option Value} {news : List (Addr × Obj)} {Q : Value → Shared → Prop}
theorem cell_lt {a b : Cell} (ha : CellAt s.heap a) (hb : CellAt s.heap b) (hu : A.units < cLine) (h : Q (.bool (clt a b)) s) : wpAny (model prog w) A (compareOp .Lt (.ref a.1) (.ref b.1)) Q E s := by
  obtain ⟨t, u, n, ea⟩ := ha
  obtain ⟨t', u', n', eb⟩ := hb
  exact pair_lt ea eb hu h
theorem news_add {h : Heap} {a : Addr} {o : Obj} (F : Fr h₀ L h m) (N : News h₀ L h news) (e : h.get? a = some o) (hL : @LT.lt Nat _ L a) : News h₀ L h ((a, o) :: news) := by
  intro q hq
  rcases List.mem_cons.mp hq with rfl | hq
  · exact ⟨e, Nat.ne_of_gt hL, Heap.get?_none_of_le (Nat.le_trans F.above (Nat.le_of_lt hL))⟩
  · exact N q hq
theorem news_take {h : Heap} {a : Addr} {o : Obj} {rest : List (Addr × Obj)} (hq : (a, o) ∈ news) (N : News h₀ L h news) (N' : News h₀ L h rest) : News h₀ L h ((a, o) :: rest) := List.forall_mem_cons.mpr ⟨N _ hq, N'⟩
theorem cells_in {cs : List Cell} {ta : Addr} {t u : Tok} {n : Nat} (h : ∀ c ∈ cs, CellAt h₀ c ∨ c = (ta, -1, 0)) (hm : (ta, tupO (-1) 0 t u n) ∈ news) : ∀ c ∈ cs, CellIn h₀ news c := fun c q =>
  (h c q).imp id fun e => by rw [e]; exact ⟨t, u, n, hm⟩
theorem clt_self (x : Cell) : clt x x = false := by simp [clt, plt]
theorem ppR_lt {hs : List Cell} {x : Cell} (h1 : 1 ≤ hs.length) : clt (ppR hs x) x = clt (root hs) x := by
  match hs, h1 with
  | a :: r, _ =>
    simp only [ppR, root]
    split <;> rename_i c
    · rfl
    · rw [clt_self]; simpa using c
theorem ppR_at {h : Heap} {hs : List Cell} {x : Cell} (hc : ∀ c ∈ hs, CellAt h c) (hx : CellAt h x) : CellAt h (ppR hs x) := by
  match hs, hc with
  | [], _ => exact hx
  | a :: r, hc =>
    simp only [ppR]
    split
    · exact hc a (.head _)
    · exact hx
theorem pick_neg {ws : List Cell} {r : Nat} (h1 : 1 ≤ r) : (slicePick (refs ws).toArray (some (-(r : Int))) none none).toList = refs (ws.drop (ws.length - r)) := by
  have e : sliceBounds (some (-(r : Int))) none none (refs ws).toArray.size = ((((refs ws).toArray.size - r : Nat) : Int), (((refs ws).toArray.size : Nat) : Int), 1) := by
    simp only [sliceBounds, Option.getD_none, show (1 : Int) > 0 by decide, if_true, if_pos (show -(r : Int) < 0 by omega)]
    congr 1
    omega
  rw [kmk_pick_nat _ e]
  show ((refs ws).drop ((refs ws).toArray.size - r)).take ((refs ws).toArray.size - ((refs ws).toArray.size - r)) = _
  rw [List.size_toArray, List.take_of_length_le (by rw [List.length_drop]; omega), List.length_map]
  exact (List.map_drop (f := fun c : Cell => Value.ref c.1)).symm
theorem add_refs {a b : Addr} {cs ds : List Cell} {k : Nat} (F : Fr h₀ L s.heap m) (N : News h₀ L s.heap news) (ha : (a, listOf (refs cs).toArray k) ∈ news) (hb : h₀.IsList b (refs ds).toArray) (h1 : cs.length ≤ 3) (h2 : ds.length ≤ 20)
    (h : ∀ D h', Fr h₀ L h' m → News h₀ L h' ((D, listOf (refs (cs ++ ds)).toArray 0) :: news) → (∀ p ∈ news, p.1 < D) → Q (.ref D) { s with heap := h' }) :
    wpAny (model prog w) A (binaryOp .Add (.ref a) (.ref b)) Q E s :=
  kmk_add_lit F N ⟨_, (N _ ha).1, rfl, k, rfl⟩ (hb.at fun o e => F.keep _ o e) (by simp) h (by simp [sizeLine_eq]; omega)
theorem mul_refs {l a : Addr} {k room : Nat} {u : Tok} (x y : Int) (F : Fr h₀ L s.heap m) (N : News h₀ L s.heap news) (hl : (l, listOf #[.ref a] k) ∈ news) (h3 : room ≤ 3)
    (h : ∀ D h', Fr h₀ L h' m → News h₀ L h' ((D, listOf (refs (List.replicate room (a, x, y))).toArray 0) :: news) → (∀ p ∈ news, p.1 < D) → Q (.ref D) { s with heap := h' }) :
    wpAny (model prog w) A (binaryOp .Mult (.ref l) (.int (room : Int) u)) Q E s := by
  refine KMa.mul (vs := [.ref a]) (ws := refs (List.replicate room (a, x, y))) F N ⟨_, (N _ hl).1, rfl, k, rfl⟩ (by omega) (by omega) (by simp; omega) ?_ h
  show (List.replicate room [Value.ref a]).flatten = _
  clear h h3
  induction room with
  | zero => rfl
  | succ n ih => rw [List.replicate_succ, List.flatten_cons, ih]; rfl
end
local macro_rules | `(tactic| walk_at "binaryOp Mult ref int") => `(tactic| (k_here; k_dflt (refine' mul_refs (-1) 0 ?F ?N ?l ?h3 ?_; (case F => k_asm); (case N => k_asm); (case l => k_mem); (case h3 => k_asm); k_whole); intro D' h' F' N' l1; (try k_lt l1); (try k_sweep)))
local macro_rules | `(tactic| walk_at "compareOp Lt ref ref") => `(tactic| (k_here; k_dflt (refine' cell_lt ?ha ?hb ?hu ?_; (case ha => exact cell_fr (by k_asm) (by k_asm)); (case hb => exact cell_fr (by k_asm) (by k_asm)); (case hu => ((try simp only [units_in1, units_deeper, Around.mark_units]); omega)); k_whole)))
local macro_rules | `(tactic| walk_at "call ref") => `(tactic| (k_here; k_dflt (refine' pushpop ?X ?T ?st ?hl ?hl0 ?h1 ?h3 ?hc ?hx ?hd ?hu ?_; (case X => k_asm); (case T => k_asm); (case st => exact Fr.keep (by k_asm)); (case hl => exact News.get (by k_asm) (by k_mem)); (case hl0 => exact News.fresh (by k_asm) (by k_mem)); (case h1 => k_asm); (case h3 => k_asm); (case hc => exact cells_fr (by k_asm) (by k_asm)); (case hx => exact cell_fr (by k_asm) (by k_asm)); (case hd => ((try simp only [depth_under_make, depth_under_kw, depth_in1, depth_deeper, depth_caller]); omega)); (case hu => ((try simp only [units_in1, units_deeper, Around.mark_units]); omega)); k_whole); intro h9 tk9 n9 k9 e9; (with_reducible rename Fr _ _ _ _ => F9); (with_reducible rename News _ _ _ _ => N9); (refine' back_one F9 N9 ?U k9 e9 ?_; (case U => k_upd); k_whole); intro F' N'; clear k9 e9 N9 F9; (try dsimp only)))
local macro_rules | `(tactic| walk_at "binaryOp Add ref ref") => `(tactic| (k_here; k_dflt (refine' add_refs ?F ?N ?ha ?hb ?h1 ?h2 ?_; (case F => k_asm); (case N => k_asm); (case ha => k_mem); (case hb => k_asm); (case h1 => (rw [List.length_replicate]; k_asm)); (case h2 => k_asm); k_whole); intro D' h' F' N' l1; (try k_lt l1); (try k_sweep)))
section
variable {prog : Program} {w : World} {s : Shared} {b₀ : Heap} {p : Program} {loose : List Str} {mean : ExcName → Option Value} {mg mb : Str → Option Value} {Q : Value → Shared → Prop} {E : Value → Shared → Prop}
  {dp un : Nat} {fr : Option (List Env)} {gd : Option (List Code)}
set_option maxRecDepth 100000 in
set_option maxHeartbeats 8000000 in
theorem onepass_spec {rw : Addr} {row : List Cell} {nr room : Nat} {tr : Tok} {ps : Array Value}
    (X : (hd.heap_39 w.params).In b₀) (T : Top p loose mean mg mb b₀) (C : CodeHd b₀ 48 44) (st : b₀.StaysIn s.heap) (h44 : b₀.get? 44 = none)
    (htab : s.heap.get? 44 = some (tabObj ps)) (hps : TabIs s.heap ps) (hr : s.heap.get? rw = some (listOf (refs row).toArray nr)) (hrc : ∀ c ∈ row, CellAt s.heap c) (hrl : row.length ≤ 20) (hkb : ∀ c ∈ row, Kb c ∧ -100 < ekey c) (hnd : (row.map ekey).Nodup)
    (h1 : 1 ≤ room) (h3 : room ≤ 3) (hd : dp + 60 < recursionLimit) (hu : un + 200 < cLine)
    (hret : ∀ h' tk r y z n1 n2 n3 ps', (∀ b o, b ≠ 44 → s.heap.get? b = some o → h'.get? b = some o) → h'.get? 44 = some (tabObj ps') → TabIs h' ps' → h'.get? r = some { cls := .type "tuple", data := .seq #[.ref y, .ref z] n3 } →
      h'.get? y = some (listOf (refs (splitP room [] row).1).toArray n1) → h'.get? z = some (listOf (refs (splitP room [] row).2).toArray n2) → s.heap.objs.size < y → y < z → z < r → Q (.ref r) { s with heap := h', toks := tk }) :
    wpAny (model prog w) ⟨none, dp, fr, gd, un⟩ (call (.ref 49) [.ref rw, .int (room : Int) tr]) Q E s := by
  refine' enterC (news := [(44, tabObj ps)]) X T st (news_one htab h44) ?ho ?hcd ?room ?hbind ?hkind ?hnd ?_ ?c2 ?c3 ?c4
  case ho => k_is
  case hcd => k_is
  case room => show dp < _; omega
  case hbind => exact BindsTo.of_eq rfl
  case hkind => exact rfl
  case hnd => decide +kernel
  case c2 => rfl
  case c3 => rfl
  case c4 => rfl
  intro g L' h' tk' cells' hg F' N' Y' X' T' l1 hL0
  k_lt l1
  k_cells Y'
  (try simp only [List.cons_append, List.nil_append] at N')
  have C' : CodeHd g 48 44 := C.keeps fun b o e => hg b o (st b o e) (by
    have : b ≠ 44 := fun q => by rw [q, h44] at e; cases e
    simpa using this)
  have hne : rw ≠ 44 := fun q => by
    rw [q, htab] at hr
    have e := congrArg Obj.data (Option.some.inj hr)
    cases e
  have hr' := hg _ _ hr (by simpa using hne)
  have hR : g.IsList rw (refs row).toArray := ⟨_, hr', rfl, nr, rfl⟩
  have hrc' : ∀ c ∈ row, CellAt g c := fun c m => by
    obtain ⟨t, u, k, e⟩ := hrc c m
    exact ⟨t, u, k, hg _ _ e (by
      have : c.1 ≠ 44 := fun q => by
        rw [q, htab] at e
        have := congrArg Obj.data (Option.some.inj e)
        cases this
      simpa using this)⟩
  rcases hps with rfl | ⟨c', occ, vsc, tc, rfl, hcc, e1, e2⟩
  · clear C X T st
    try dsimp only
    k_steps
    rename_i o0 d0 ta hq1 lt1 li hq2 lt2 l hq3 lt3 hq4 oc F1 N1 dc f c' occ vsc tc ctv hN tkN F2 N2 e1 e2 lt4 lt5
    have hP : Pred prog w f l (hN.hide l) := by
      refine ⟨⟨_, _, _, _, (Heap.hide_ne hN (show f ≠ l from neN (by omega))).trans (News.get N2 (.head _))⟩, Heap.hide_self _ _, ?_⟩
      intro dp un fr gd s1 hs x n Q1 E1 stK hl1 b1 b3 hc1 hx1 hd1 hu1 hr1
      have stN : ∀ b o, b ≠ l → hN.get? b = some o → s1.heap.get? b = some o := fun b o hb e => stK b o ((Heap.hide_ne hN hb).trans e)
      have hl0 : g.get? l = none := News.fresh N2 (by k_mem)
      have hcell : s1.heap.get? (L' + 1) = some oc := stN _ _ (Nat.ne_of_lt (by omega)) (News.get N2 (by k_mem))
      have hcell0 : g.get? (L' + 1) = none := News.fresh N2 (by k_mem)
      refine' enterLam (b₀ := g) (news := [(L' + 1, oc), (l, listOf (refs hs).toArray n)]) X' T' ?st ?N ?ho ?hcd ?room ?hbind ?hloc ?_ ?c2 ?c3 ?c4 ?c5
      case st => exact fun b o e => stN b o (fun q => by rw [q, hl0] at e; cases e) (F2.keep b o e)
      case N =>
        intro q hq
        rcases List.mem_cons.mp hq with rfl | hq
        · exact ⟨hcell, hcell0⟩
        · rw [List.mem_singleton.mp hq]; exact ⟨hl1, hl0⟩
      case ho => exact stN _ _ (show f ≠ l from neN (by omega)) (News.get N2 (.head _))
      case hcd => exact ⟨c', occ, vsc, tc, rfl, stN _ _ (show c' ≠ l from neN (by omega)) (News.get N2 (by k_mem)), e1, e2⟩
      case room => show dp < _; omega
      case hbind => exact rfl
      case hloc => exact locs rfl
      case c5 => decide
      case c2 => rfl
      case c3 => rfl
      case c4 => rfl
      intro g2 L2 h2 hg2 F3 N3 X3 T3 l3
      have l4 : L' + 1 < L2 := l3 _ (.head _)
      have l5 : l < L2 := l3 _ (.tail _ (.head _))
      have toG : ∀ c, CellAt s1.heap c → CellAt g2 c := fun c ⟨t, u, k, e⟩ => ⟨t, u, k, hg2 _ _ e (by
        have n1 := ne_of_tup hl1 e
        have n2 : c.1 ≠ L' + 1 := fun q => by
          rw [q, hcell] at e
          have := congrArg Obj.data (Option.some.inj e)
          rw [dc] at this; cases this
        simp [n1, n2])⟩
      have hcg : ∀ c ∈ hs, CellAt g2 c := fun c m => toG c (hc1 c m)
      have hxg : CellAt g2 x := toG x hx1
      have hpg : CellAt g2 (ppR hs x) := ppR_at hcg hxg
      clear stN stK hc1 hx1 F2 N2 F1 N1 l3 toG
      try dsimp only
      k_steps
      rename_i h9 tk9 n9 F9 N9
      rw [ppR_lt b1]
      refine hr1 _ _ n9 (fun b o hb e => ?_) (News.get N9 (by k_mem))
      by_cases q : b = L' + 1
      · rw [q, hcell] at e; rw [q, ← e]; exact News.get N9 (by k_mem)
      · exact F9.keep _ _ (hg2 _ _ e (by simp [q, hb]))
    have hf9 := ltN (Heap.lt_size (News.get N2 (.head _)))
    have hl0 : g.get? l = none := News.fresh N2 (by k_mem)
    have hta := News.get N2 (a := ta) (by k_mem)
    refine' split_spec (b₀ := g) X' T' F2.keep hl0 hP (fun b o e => Heap.of_hide e) (News.get N2 (by k_mem)) (F2.keep _ _ hr') (fun q => by rw [q, hl0] at hr'; cases hr') ?l1 ?l3 ?hc ?hrc ?hrl ?hd ?hu ?_
    case l1 => rw [List.length_replicate]; exact h1
    case l3 => rw [List.length_replicate]; exact h3
    case hc => intro c q; rw [List.eq_of_mem_replicate q]; exact ⟨_, _, _, hta⟩
    case hrc => exact fun c q => (hrc' c q).keeps F2.keep
    case hrl => omega
    case hd => ((try simp only [depth_under_make, depth_under_kw, depth_in1, depth_deeper, depth_caller]); omega)
    case hu => ((try simp only [units_in1, units_deeper, Around.mark_units]); omega)
    intro h9 tk9 r y z n' n1 n2 n3 k9 e9 er ey ez ly lz lr
    have ly := ltN (show hN.objs.size < y from ly)
    have lz := ltN lz
    have lr := ltN lr
    refine' back_one F2 N2 ?U k9 e9 ?_
    case U => k_upd
    intro F3 N3
    have N4 := news_add F3 (news_add F3 (news_add F3 (news_take (a := l) (by k_mem) N3 (news_take (a := c') (by k_mem) N3 (news_take (a := ta) (by k_mem) N3 (news_take (a := L' + 1) (by k_mem) N3 (news_take (a := 44) (by k_mem) N3 News.nil))))) ey (by omega)) ez (by omega)) er (by omega)
    clear hP F2 N2 F1 N1 N3 k9 e9 er ey ez hta
    try dsimp only
    k_steps
    have hF1 : ∀ c ∈ (row.foldl stp (List.replicate room (ta, -1, 0), [], [])).1, c ∈ row ∨ c = (ta, -1, 0) := fun c q => (stp_mem _ _ _ q).elim (fun q => .inr (List.eq_of_mem_replicate q)) .inl
    have hF2 : (row.foldl stp (List.replicate room (ta, -1, 0), [], [])).1.length = room := by rw [stp_length]; exact List.length_replicate
    refine' sorted_cells (cs := (row.foldl stp (List.replicate room (ta, -1, 0), [], [])).1) ?qF ?qN ?ql ?qc ?qk ?qh1 ?qh64 ?_
    case qF => k_asm
    case qN => k_asm
    case ql => exact ⟨_, News.get (by k_asm) (by k_mem), rfl, _, rfl⟩
    case qc => exact cells_in (fun c q => (hF1 c q).imp (hrc' c) id) (by k_mem)
    case qk => exact fun c q => (hF1 c q).elim (fun q => (hkb c q).1) fun e => by rw [e]; exact ⟨by show (-50 : Int) < 0; decide, by show (0 : Int) ≤ 0; decide⟩
    case qh1 => omega
    case qh64 => omega
    intro D1 ec1 hD1 ws1 hw1 hs1 F5 N5 l5
    k_lt l5
    try dsimp only
    k_steps
    rename_i tb hb1 lb1 lb hb2 lb2 lc hb3 lb3 la hb4 F6 N6 lb4
    have N7 := news_take (a := la) (by k_mem) N6 (news_take (a := tb) (by k_mem) N6 (news_take (a := D1) (by k_mem) N6 (news_take (a := r) (by k_mem) N6 (news_take (a := z) (by k_mem) N6 (news_take (a := y) (by k_mem) N6 (news_take (a := c') (by k_mem) N6 (news_take (a := ta) (by k_mem) N6 (news_take (a := 44) (by k_mem) N6 News.nil))))))))
    clear N6
    refine' sorted_cells (cs := List.replicate room (tb, -1, 0) ++ row) F6 N7 ?ql ?qc ?qk ?qh1 ?qh64 ?_
    case ql => exact ⟨_, News.get N7 (by k_mem), rfl, _, rfl⟩
    case qc => exact cells_in (ta := tb) (fun c q => (List.mem_append.mp q).elim (fun q => .inr (List.eq_of_mem_replicate q)) fun q => .inl (hrc' c q)) (by k_mem)
    case qk => exact fun c q => (List.mem_append.mp q).elim (fun q => by rw [List.eq_of_mem_replicate q]; exact ⟨by show (-50 : Int) < 0; decide, by show (0 : Int) ≤ 0; decide⟩) fun q => (hkb c q).1
    case qh1 => rw [List.length_append, List.length_replicate]; omega
    case qh64 => rw [List.length_append, List.length_replicate]; omega
    intro D2 ec2 hD2 ws2 hw2 hs2 F8 N8 l8
    k_lt l8
    clear F6 N7
    try dsimp only
    k_steps
    have hwl : ws2.length = room + row.length := by rw [hw2.length_eq, List.length_append, List.length_replicate]
    refine' kmk_slice_lit (zs := refs (ws2.drop (ws2.length - room))) F8 N8 ?ql ?qp ?qq ?qe ?_ ?qs ?qt ?qz
    case ql => exact ⟨_, News.get N8 (.head _), rfl, _, rfl⟩
    case qp => kmk_part
    case qq => kmk_part
    case qe => exact pick_neg h1
    case qs => with_unfolding_all rfl
    case qt => kmk_pure
    case qz => rw [List.size_toArray, List.length_map, sizeLine_eq]; omega
    intro D3 hD3 F9 N9 l9
    k_lt l9
    clear F8 N8
    try dsimp only
    refine ne_cells (cs := ws1) (ds := ws2.drop (ws2.length - room)) ⟨_, News.get N9 (by k_mem), rfl, _, rfl⟩ ⟨_, News.get N9 (by k_mem), rfl, _, rfl⟩ (fun c q => ?qa) (fun c q => ?qb) (heap_check h1 h3 hkb hnd hw1 hs1 hw2 hs2) ?qu ?_
    case qa =>
      rcases hF1 c (hw1.mem_iff.mp q) with q | rfl
      · exact (hrc' c q).keeps F9.keep
      · exact ⟨_, _, _, News.get N9 (by k_mem)⟩
    case qb =>
      rcases List.mem_append.mp (hw2.mem_iff.mp (List.mem_of_mem_drop q)) with q | q
      · rw [List.eq_of_mem_replicate q]; exact ⟨_, _, _, News.get N9 (by k_mem)⟩
      · exact (hrc' c q).keeps F9.keep
    case qu => ((try simp only [units_in1, units_deeper, Around.mark_units]); omega)
    k_steps
    show Q (.ref r) _
    have es := split_fold (ta := ta) h1 h3 hkb hnd
    rw [es] at N9
    refine hret _ _ r y z n1 n2 n3 _ (fun b o hb e => F9.keep b o (hg b o e (by simpa using hb))) (News.get N9 (by k_mem)) (.inr ⟨c', occ, vsc, tc, by first | rfl | simp, News.get N9 (by k_mem), e1, e2⟩) (News.get N9 (by k_mem)) (News.get N9 (by k_mem)) (News.get N9 (by k_mem)) ?qend lz lr
    show s.heap.objs.size < y
    rw [← hL0]; exact (by omega : @LT.lt Nat _ L' y)
  · have hc44 : c' ≠ 44 := fun q => by
      rw [q, htab] at hcc
      have e := congrArg Obj.data (Option.some.inj hcc)
      rw [e1] at e
      have e' : #[rawInt 45, rawInt 29, Value.ref c'] = vsc := by cases e; rfl
      rw [← e'] at e2
      cases e2
    have hcg := hg _ _ hcc (by simpa using hc44)
    have hcl := ltN (Nat.lt_of_lt_of_le (Heap.lt_size hcg) F'.above)
    clear C X T st
    try dsimp only
    k_steps
    rename_i o0 d0 ta hq1 lt1 li hq2 lt2 l hq3 lt3 hq4 oc F1 N1 dc f ctv hN tkN F2 N2 lt4
    have hP : Pred prog w f l (hN.hide l) := by
      refine ⟨⟨_, _, _, _, (Heap.hide_ne hN (show f ≠ l from neN (by omega))).trans (News.get N2 (.head _))⟩, Heap.hide_self _ _, ?_⟩
      intro dp un fr gd s1 hs x n Q1 E1 stK hl1 b1 b3 hc1 hx1 hd1 hu1 hr1
      have stN : ∀ b o, b ≠ l → hN.get? b = some o → s1.heap.get? b = some o := fun b o hb e => stK b o ((Heap.hide_ne hN hb).trans e)
      have hl0 : g.get? l = none := News.fresh N2 (by k_mem)
      have hcell : s1.heap.get? (L' + 1) = some oc := stN _ _ (Nat.ne_of_lt (by omega)) (News.get N2 (by k_mem))
      have hcell0 : g.get? (L' + 1) = none := News.fresh N2 (by k_mem)
      refine' enterLam (b₀ := g) (news := [(L' + 1, oc), (l, listOf (refs hs).toArray n)]) X' T' ?st ?N ?ho ?hcd ?room ?hbind ?hloc ?_ ?c2 ?c3 ?c4 ?c5
      case st => exact fun b o e => stN b o (fun q => by rw [q, hl0] at e; cases e) (F2.keep b o e)
      case N =>
        intro q hq
        rcases List.mem_cons.mp hq with rfl | hq
        · exact ⟨hcell, hcell0⟩
        · rw [List.mem_singleton.mp hq]; exact ⟨hl1, hl0⟩
      case ho => exact stN _ _ (show f ≠ l from neN (by omega)) (News.get N2 (.head _))
      case hcd => exact ⟨c', occ, vsc, tc, rfl, stN _ _ (show c' ≠ l from neN (by omega)) (F2.keep _ _ hcg), e1, e2⟩
      case room => show dp < _; omega
      case hbind => exact rfl
      case hloc => exact locs rfl
      case c5 => decide
      case c2 => rfl
      case c3 => rfl
      case c4 => rfl
      intro g2 L2 h2 hg2 F3 N3 X3 T3 l3
      have l4 : L' + 1 < L2 := l3 _ (.head _)
      have l5 : l < L2 := l3 _ (.tail _ (.head _))
      have toG : ∀ c, CellAt s1.heap c → CellAt g2 c := fun c ⟨t, u, k, e⟩ => ⟨t, u, k, hg2 _ _ e (by
        have n1 := ne_of_tup hl1 e
        have n2 : c.1 ≠ L' + 1 := fun q => by
          rw [q, hcell] at e
          have := congrArg Obj.data (Option.some.inj e)
          rw [dc] at this; cases this
        simp [n1, n2])⟩
      have hcg : ∀ c ∈ hs, CellAt g2 c := fun c m => toG c (hc1 c m)
      have hxg : CellAt g2 x := toG x hx1
      have hpg : CellAt g2 (ppR hs x) := ppR_at hcg hxg
      clear stN stK hc1 hx1 F2 N2 F1 N1 l3 toG
      try dsimp only
      k_steps
      rename_i h9 tk9 n9 F9 N9
      rw [ppR_lt b1]
      refine hr1 _ _ n9 (fun b o hb e => ?_) (News.get N9 (by k_mem))
      by_cases q : b = L' + 1
      · rw [q, hcell] at e; rw [q, ← e]; exact News.get N9 (by k_mem)
      · exact F9.keep _ _ (hg2 _ _ e (by simp [q, hb]))
    have hf9 := ltN (Heap.lt_size (News.get N2 (.head _)))
    have hl0 : g.get? l = none := News.fresh N2 (by k_mem)
    have hta := News.get N2 (a := ta) (by k_mem)
    refine' split_spec (b₀ := g) X' T' F2.keep hl0 hP (fun b o e => Heap.of_hide e) (News.get N2 (by k_mem)) (F2.keep _ _ hr') (fun q => by rw [q, hl0] at hr'; cases hr') ?l1 ?l3 ?hc ?hrc ?hrl ?hd ?hu ?_
    case l1 => rw [List.length_replicate]; exact h1
    case l3 => rw [List.length_replicate]; exact h3
    case hc => intro c q; rw [List.eq_of_mem_replicate q]; exact ⟨_, _, _, hta⟩
    case hrc => exact fun c q => (hrc' c q).keeps F2.keep
    case hrl => omega
    case hd => ((try simp only [depth_under_make, depth_under_kw, depth_in1, depth_deeper, depth_caller]); omega)
    case hu => ((try simp only [units_in1, units_deeper, Around.mark_units]); omega)
    intro h9 tk9 r y z n' n1 n2 n3 k9 e9 er ey ez ly lz lr
    have ly := ltN (show hN.objs.size < y from ly)
    have lz := ltN lz
    have lr := ltN lr
    refine' back_one F2 N2 ?U k9 e9 ?_
    case U => k_upd
    intro F3 N3
    have N4 := news_add F3 (news_add F3 (news_add F3 (news_take (a := l) (by k_mem) N3 (news_take (a := ta) (by k_mem) N3 (news_take (a := L' + 1) (by k_mem) N3 (news_take (a := 44) (by k_mem) N3 News.nil)))) ey (by omega)) ez (by omega)) er (by omega)
    clear hP F2 N2 F1 N1 N3 k9 e9 er ey ez hta
    try dsimp only
    k_steps
    have hF1 : ∀ c ∈ (row.foldl stp (List.replicate room (ta, -1, 0), [], [])).1, c ∈ row ∨ c = (ta, -1, 0) := fun c q => (stp_mem _ _ _ q).elim (fun q => .inr (List.eq_of_mem_replicate q)) .inl
    have hF2 : (row.foldl stp (List.replicate room (ta, -1, 0), [], [])).1.length = room := by rw [stp_length]; exact List.length_replicate
    refine' sorted_cells (cs := (row.foldl stp (List.replicate room (ta, -1, 0), [], [])).1) ?vF ?vN ?vl ?vc ?vk ?vh1 ?vh64 ?_
    case vF => k_asm
    case vN => k_asm
    case vl => exact ⟨_, News.get (by k_asm) (by k_mem), rfl, _, rfl⟩
    case vc => exact cells_in (fun c q => (hF1 c q).imp (hrc' c) id) (by k_mem)
    case vk => exact fun c q => (hF1 c q).elim (fun q => (hkb c q).1) fun e => by rw [e]; exact ⟨by show (-50 : Int) < 0; decide, by show (0 : Int) ≤ 0; decide⟩
    case vh1 => omega
    case vh64 => omega
    intro D1 ec1 hD1 ws1 hw1 hs1 F5 N5 l5
    k_lt l5
    try dsimp only
    k_steps
    rename_i tb hb1 lb1 lb hb2 lb2 lc hb3 lb3 la hb4 F6 N6 lb4
    have N7 := news_take (a := la) (by k_mem) N6 (news_take (a := tb) (by k_mem) N6 (news_take (a := D1) (by k_mem) N6 (news_take (a := r) (by k_mem) N6 (news_take (a := z) (by k_mem) N6 (news_take (a := y) (by k_mem) N6 (news_take (a := ta) (by k_mem) N6 (news_take (a := 44) (by k_mem) N6 News.nil)))))))
    clear N6
    refine' sorted_cells (cs := List.replicate room (tb, -1, 0) ++ row) F6 N7 ?vl ?vc ?vk ?vh1 ?vh64 ?_
    case vl => exact ⟨_, News.get N7 (by k_mem), rfl, _, rfl⟩
    case vc => exact cells_in (ta := tb) (fun c q => (List.mem_append.mp q).elim (fun q => .inr (List.eq_of_mem_replicate q)) fun q => .inl (hrc' c q)) (by k_mem)
    case vk => exact fun c q => (List.mem_append.mp q).elim (fun q => by rw [List.eq_of_mem_replicate q]; exact ⟨by show (-50 : Int) < 0; decide, by show (0 : Int) ≤ 0; decide⟩) fun q => (hkb c q).1
    case vh1 => rw [List.length_append, List.length_replicate]; omega
    case vh64 => rw [List.length_append, List.length_replicate]; omega
    intro D2 ec2 hD2 ws2 hw2 hs2 F8 N8 l8
    k_lt l8
    clear F6 N7
    try dsimp only
    k_steps
    have hwl : ws2.length = room + row.length := by rw [hw2.length_eq, List.length_append, List.length_replicate]
    refine' kmk_slice_lit (zs := refs (ws2.drop (ws2.length - room))) F8 N8 ?vl ?vp ?vq ?ve ?_ ?vs ?vt ?vz
    case vl => exact ⟨_, News.get N8 (.head _), rfl, _, rfl⟩
    case vp => kmk_part
    case vq => kmk_part
    case ve => exact pick_neg h1
    case vs => with_unfolding_all rfl
    case vt => kmk_pure
    case vz => rw [List.size_toArray, List.length_map, sizeLine_eq]; omega
    intro D3 hD3 F9 N9 l9
    k_lt l9
    clear F8 N8
    try dsimp only
    refine ne_cells (cs := ws1) (ds := ws2.drop (ws2.length - room)) ⟨_, News.get N9 (by k_mem), rfl, _, rfl⟩ ⟨_, News.get N9 (by k_mem), rfl, _, rfl⟩ (fun c q => ?va) (fun c q => ?vb) (heap_check h1 h3 hkb hnd hw1 hs1 hw2 hs2) ?vu ?_
    case va =>
      rcases hF1 c (hw1.mem_iff.mp q) with q | rfl
      · exact (hrc' c q).keeps F9.keep
      · exact ⟨_, _, _, News.get N9 (by k_mem)⟩
    case vb =>
      rcases List.mem_append.mp (hw2.mem_iff.mp (List.mem_of_mem_drop q)) with q | q
      · rw [List.eq_of_mem_replicate q]; exact ⟨_, _, _, News.get N9 (by k_mem)⟩
      · exact (hrc' c q).keeps F9.keep
    case vu => ((try simp only [units_in1, units_deeper, Around.mark_units]); omega)
    k_steps
    show Q (.ref r) _
    have es := split_fold (ta := ta) h1 h3 hkb hnd
    rw [es] at N9
    refine hret _ _ r y z n1 n2 n3 _ (fun b o hb e => F9.keep b o (hg b o e (by simpa using hb))) (News.get N9 (by k_mem)) (.inr ⟨c', occ, vsc, tc, by first | rfl | simp, F9.keep _ _ hcg, e1, e2⟩) (News.get N9 (by k_mem)) (News.get N9 (by k_mem)) (News.get N9 (by k_mem)) ?vend lz lr
    show s.heap.objs.size < y
    rw [← hL0]; exact (by omega : @LT.lt Nat _ L' y)
end
end Mj
end
section
open PySem PySem.W PyProof.Rows PySem.Calls PySem.Spec
namespace Mj
theorem fill_k6 : PySem.Challenge.rw_mj0069_01 = PySem.Challenge.rw_mj0069_01 ∧ hd.heap_39 = hd.heap_39 := by
  k_fill
  exact ⟨rfl, rfl⟩
section
variable {prog : Program} {w : World} {A : Around} {E : Value → Shared → Prop} {s : Shared} {env : Env} {h₀ : Heap} {x : Str} {body : List Stmt} {Q : Flow → Shared → Prop}
theorem loop_walksO (Ob : Obj → Prop) {I : Addr} {n : Nat} {P : Nat → Value → Prop} {St : Nat → Heap → Prop} {fp : List Addr} {m₀ : Str → Option Value} {news : List (Addr × Obj)} (J : Nat → (Str → Option Value) → List (Addr × Obj) → Prop)
    (W : Walks prog w A I fp [I] n P St) (hfp : ∀ b ∈ fp, b = I ∨ ∃ o, h₀.get? b = some o) (hob : ∀ i h, St i h → ∃ o, h.get? I = some o ∧ Ob o) (hL : env.locals ∉ fp) (hI : h₀.get? I = none) (hnI : ∀ p ∈ news, p.1 ≠ I) (hst : St 0 s.heap)
    (F : Fr h₀ env.locals s.heap m₀) (N : News h₀ env.locals s.heap news) (hj : J 0 m₀ news)
    (turn : ∀ i v m₁ nx h tk oI, Ob oI → i < n → P i v → (∀ p ∈ nx, p.1 ≠ I) → J i m₁ nx → Fr h₀ env.locals h (fun y => if y = x then some v else m₁ y) → News h₀ env.locals h ((I, oI) :: nx) →
      wpAny (model prog w) A (execs body env) (TurnEnd h₀ env.locals I oI (J (i + 1)) s Q) E { s with heap := h, toks := tk })
    (done : ∀ m₁ nx h tk, J n m₁ nx → Fr h₀ env.locals h m₁ → News h₀ env.locals h nx → Q .next { s with heap := h, toks := tk }) :
    LoopAtV prog w A h₀ env x body Q E (.ref I) s := by
  refine ⟨I, fp, [I], n, P, St, m₀, news, J, rfl, W, hL, ?_, ?_, hst, F, N, hj, ?_, ?_⟩
  · intro b hb; rw [List.mem_singleton.mp hb]; exact hI
  · intro p hp hq; exact hnI p hp (List.mem_singleton.mp hq)
  · rintro i v m₁ news₁ s₁ own ⟨h, tk, rfl⟩ hi hP hJ hoff hown hget hmem hst' F₁ N₁
    obtain ⟨oI, hoI, hOb⟩ := hob _ _ hst'
    have hIfp : I ∈ fp := W.sub I (List.mem_singleton.mpr rfl)
    have hIown : (I, oI) ∈ own := hmem I hIfp hI oI hoI
    have hon : ∀ p ∈ own, p = (I, oI) := by
      intro p hp
      rcases hfp _ (hown p hp) with e | ⟨o, e⟩
      · have h1 := hget p hp
        rw [e] at h1
        have : p.2 = oI := by rw [hoI] at h1; exact (Option.some.inj h1).symm
        exact Prod.ext e this
      · have := (N₁ p (List.mem_append.mpr (.inl hp))).2.2
        rw [e] at this; cases this
    refine wpAny_mono (turn i v m₁ news₁ h tk oI hOb hi hP (fun p hp q => hoff p hp (List.mem_singleton.mpr q)) hJ F₁ ?_) (fun f s₂ p => ?_) fun _ _ e => e
    · intro p hp
      rcases List.mem_cons.mp hp with rfl | hp
      · exact N₁ _ (List.mem_append.mpr (.inl hIown))
      · exact N₁ _ (List.mem_append.mpr (.inr hp))
    · have fin : TurnEnd h₀ env.locals I oI (J (i + 1)) s Q .next s₂ → LoopStepU h₀ env.locals [I] own (J (i + 1)) { s with heap := h, toks := tk } .next s₂ := by
        rintro ⟨h', tk, m', nx, e, F', N', hn, hj⟩
        refine ⟨rfl, h', tk, m', nx, e, F', fun p hp => ?_, fun p hp q => hn p hp (List.mem_singleton.mp q), hj⟩
        rcases List.mem_append.mp hp with hp | hp
        · rw [hon p hp]; exact N' _ (.head _)
        · exact N' _ (.tail _ hp)
      cases f with
      | ret v => exact .ret p
      | brk => exact .brk p
      | next => exact .next (fin p)
      | cont => exact .cont (fin p)
  · rintro h' tk m' news' F' N' _ hJ
    exact done m' news' h' tk hJ F' N'
theorem loop_rangeO {r : Addr} {a₀ b₀ : Int} {t₀ u₀ v₀ : Tok} {n : Nat} {m₀ : Str → Option Value} {news : List (Addr × Obj)} (J : Nat → (Str → Option Value) → List (Addr × Obj) → Prop)
    (hh : A.handled = none) (hr : IsRange s.heap r a₀ b₀ 1 t₀ u₀ v₀) (hsmall : Builtin.Range.small a₀ b₀ 1 = true) (hsz : Builtin.Range.rangeSize a₀ b₀ 1 = (n : Int)) (F : Fr h₀ env.locals s.heap m₀) (N : News h₀ env.locals s.heap news) (hj : J 0 m₀ news)
    (turn : ∀ i t m₁ nx I h tk oI, (∃ vs, oI.data = .fields vs ∧ ∀ x t, vs[1]? ≠ some (.str x t)) → i < n → env.locals < I → (∀ p ∈ nx, p.1 ≠ I) → J i m₁ nx → Fr h₀ env.locals h (fun y => if y = x then some (.int (a₀ + (i : Int)) t) else m₁ y) → News h₀ env.locals h ((I, oI) :: nx) →
      wpAny (model prog w) A (execs body env) (TurnEnd h₀ env.locals I oI (J (i + 1)) s Q) E { s with heap := h, toks := tk })
    (done : ∀ m₁ nx h tk, J n m₁ nx → Fr h₀ env.locals h m₁ → News h₀ env.locals h nx → Q .next { s with heap := h, toks := tk }) :
    wpAny (model prog w) A (pyIter (.ref r)) (fun it s₂ => LoopAtV prog w A h₀ env x body Q E it s₂) E s := by
  refine wpAny_pyIter_range hr hsmall ?_
  have W : Walks prog w A s.heap.objs.size [s.heap.objs.size] [s.heap.objs.size] n (fun i v => i < n ∧ ∃ t, v = .int (a₀ + i * 1) t)
      (fun i h => IsRangeIter h s.heap.objs.size (a₀ + (i : Nat) * 1) ((n : Int) - (i : Nat)) 1) := (Walks.range hh _ a₀ 1 n).bound
  refine loop_walksO (fun o => ∃ vs, o.data = .fields vs ∧ ∀ x t, vs[1]? ≠ some (.str x t)) J W (fun b hb => .inl (List.mem_singleton.mp hb)) (fun i h hi => ⟨_, hi, _, rfl, fun x t e => by cases e⟩) ?_ (next_is_new F) ?_ (by show IsRangeIter _ _ _ _ _; rw [hsz]; simpa using Heap.get?_push_size _ rfl) (F.push _) (fun p hp => ⟨Heap.get?_push_of_some _ (N p hp).1, (N p hp).2⟩) hj ?_ ?_
  · intro hm
    exact absurd F.ns.lt ((List.mem_singleton.mp hm) ▸ Nat.lt_irrefl _)
  · intro p hp hI
    exact absurd (Heap.lt_size (N p hp).1) (hI ▸ Nat.lt_irrefl _)
  · rintro i v m₁ nx h tk oI hOb hi ⟨_, t, rfl⟩ hn hJ F₁ N₁
    have e1 : a₀ + (i : Int) * 1 = a₀ + (i : Int) := by omega
    rw [e1] at F₁
    exact turn i t m₁ nx _ h tk oI hOb hi F.ns.lt hn hJ F₁ N₁
  · exact done
end
/-- one turn of _law_passes -/
def pst (r : Nat) (a : List Cell × List (List Cell)) : List Cell × List (List Cell) := if a.1.isEmpty then a else ((splitP r [] a.1).2, a.2 ++ [(splitP r [] a.1).1])
def psts (r : Nat) (row : List Cell) : Nat → List Cell × List (List Cell)
  | 0 => (row, [])
  | n + 1 => pst r (psts r row n)
theorem split_sub (r : Nat) : ∀ (row pre : List Cell), (splitP r pre row).1.Sublist row ∧ (splitP r pre row).2.Sublist row
  | [], pre => ⟨.slnil, .slnil⟩
  | x :: t, pre => by
    have := split_sub r t (pre ++ [x])
    simp only [splitP]
    split
    · exact ⟨.cons₂ _ this.1, .cons _ this.2⟩
    · exact ⟨.cons _ this.1, .cons₂ _ this.2⟩
theorem psts_sub (r : Nat) (row : List Cell) : ∀ n, (psts r row n).1.Sublist row
  | 0 => .refl _
  | n + 1 => by
    have := psts_sub r row n
    simp only [psts, pst]
    split
    · exact this
    · exact (split_sub r _ []).2.trans this
/-- lists of cells of the ledger -/
def RowsIn (tl : List (Addr × Obj)) : List Value → List (List Cell) → Prop
  | [], [] => True
  | v :: vs, cs :: rs => (∃ a k, v = .ref a ∧ (a, listOf (refs cs).toArray k) ∈ tl) ∧ RowsIn tl vs rs
  | _, _ => False
/-- a list of cells of the base or of the ledger -/
def LeftIn (g : Heap) (tl : List (Addr × Obj)) (a : Addr) (cs : List Cell) : Prop := (∃ k, g.get? a = some (listOf (refs cs).toArray k)) ∨ ∃ k, (a, listOf (refs cs).toArray k) ∈ tl
theorem LeftIn.get {g h : Heap} {tl news : List (Addr × Obj)} {a L : Addr} {cs : List Cell} {m : Str → Option Value} (x : LeftIn g tl a cs) (F : Fr g L h m) (N : News g L h news) (sub : ∀ q ∈ tl, q ∈ news) : ∃ k, h.get? a = some (listOf (refs cs).toArray k) :=
  x.elim (fun ⟨k, e⟩ => ⟨k, F.keep _ _ e⟩) fun ⟨k, e⟩ => ⟨k, (N _ (sub _ e)).1⟩
def TabIn (g : Heap) (tl : List (Addr × Obj)) (ps : Array Value) : Prop := ps = #[] ∨ ∃ c' oc vs t, ps = #[rawInt 45, rawInt 29, .ref c'] ∧ (g.get? c' = some oc ∨ (c', oc) ∈ tl) ∧ oc.data = .fields vs ∧ vs[1]? = some (.str (Str.ofString "_law_one_pass" ++ ".<locals>." ++ "<lambda>") t)
theorem TabIn.is {g h : Heap} {tl news : List (Addr × Obj)} {L : Addr} {ps : Array Value} {m : Str → Option Value} (x : TabIn g tl ps) (F : Fr g L h m) (N : News g L h news) (sub : ∀ q ∈ tl, q ∈ news) : TabIs h ps :=
  x.imp id fun ⟨c', oc, vs, t, e1, e2, e3, e4⟩ => ⟨c', oc, vs, t, e1, e2.elim (fun e => F.keep _ _ e) (fun e => (N _ (sub _ e)).1), e3, e4⟩
theorem TabIn.mono {g : Heap} {tl tl' : List (Addr × Obj)} {ps : Array Value} (x : TabIn g tl ps) (sub : ∀ q ∈ tl, q ∈ tl') : TabIn g tl' ps :=
  x.imp id fun ⟨c', oc, vs, t, e1, e2, e3, e4⟩ => ⟨c', oc, vs, t, e1, e2.imp id (sub _), e3, e4⟩
/-- the code of the lambda joins the ledger -/
theorem TabIs.in {g h : Heap} {L : Addr} {ps : Array Value} {m : Str → Option Value} (x : TabIs h ps) (F : Fr g L h m) (h44 : h.get? 44 = some (tabObj ps)) :
    ∃ ex, TabIn g ex ps ∧ News g L h ex ∧ (∀ q ∈ ex, q.1 ≠ 44) ∧ ∀ q ∈ ex, ∃ vs x t, q.2.data = .fields vs ∧ vs[1]? = some (.str x t) := by
  rcases x with rfl | ⟨c', oc, vs, t, rfl, e2, e3, e4⟩
  · exact ⟨[], .inl rfl, News.nil, (fun _ h => nomatch h), fun _ h => nomatch h⟩
  · have hc44 : c' ≠ 44 := fun q => by
      rw [q, h44] at e2
      have e := congrArg Obj.data (Option.some.inj e2)
      rw [e3] at e
      have e' : #[rawInt 45, rawInt 29, Value.ref c'] = vs := by cases e; rfl
      rw [← e'] at e4
      cases e4
    have hcL : c' ≠ L := fun q => by
      obtain ⟨o, es, ep, ho, hd, _⟩ := F.ns
      rw [q, ho] at e2
      rw [Option.some.inj e2, e3] at hd; cases hd
    cases hc : g.get? c' with
    | some o =>
      have := F.keep _ _ hc
      rw [e2] at this
      exact ⟨[], .inr ⟨c', oc, vs, t, rfl, .inl (by rw [hc, Option.some.inj this]), e3, e4⟩, News.nil, (fun _ h => nomatch h), fun _ h => nomatch h⟩
    | none =>
      refine ⟨[(c', oc)], .inr ⟨c', oc, vs, t, rfl, .inr (.head _), e3, e4⟩, fun q hq => ?_, fun q hq => ?_, fun q hq => ?_⟩
      · rw [List.mem_singleton.mp hq]; exact ⟨e2, hcL, hc⟩
      · rw [List.mem_singleton.mp hq]; exact hc44
      · rw [List.mem_singleton.mp hq]; exact ⟨vs, _, t, e3, e4⟩
theorem code_ne {g h : Heap} {L a : Addr} {ex : List (Addr × Obj)} {o : Obj} (N : News g L h ex) (hx : ∀ q ∈ ex, ∃ vs x t, q.2.data = .fields vs ∧ vs[1]? = some (.str x t)) (ha : h.get? a = some o) (ho : ∀ vs x t, o.data = .fields vs → vs[1]? ≠ some (.str x t)) : ∀ q ∈ ex, q.1 ≠ a := by
  intro q hq e
  obtain ⟨vs, x, t, e1, e2⟩ := hx q hq
  have := (N q hq).1
  rw [e, ha] at this
  rw [← Option.some.inj this] at e1
  exact ho vs x t e1 e2
theorem RowsIn.mono {tl tl' : List (Addr × Obj)} (sub : ∀ q ∈ tl, q ∈ tl') : ∀ {vs : List Value} {rs : List (List Cell)}, RowsIn tl vs rs → RowsIn tl' vs rs
  | [], [], _ => trivial
  | _ :: _, _ :: _, ⟨⟨a, k, e, q⟩, r⟩ => ⟨⟨a, k, e, sub _ q⟩, RowsIn.mono sub r⟩
  | [], _ :: _, h => h.elim
  | _ :: _, [], h => h.elim
theorem RowsIn.snoc {tl : List (Addr × Obj)} {a : Addr} {cs : List Cell} {k : Nat} (q : (a, listOf (refs cs).toArray k) ∈ tl) : ∀ {vs : List Value} {rs : List (List Cell)}, RowsIn tl vs rs → RowsIn tl (vs ++ [.ref a]) (rs ++ [cs])
  | [], [], _ => ⟨⟨a, k, rfl, q⟩, trivial⟩
  | _ :: _, _ :: _, ⟨x, r⟩ => ⟨x, RowsIn.snoc q r⟩
  | [], _ :: _, h => h.elim
  | _ :: _, [], h => h.elim
theorem RowsIn.length {tl : List (Addr × Obj)} : ∀ {vs : List Value} {rs : List (List Cell)}, RowsIn tl vs rs → vs.length = rs.length
  | [], [], _ => rfl
  | _ :: _, _ :: _, ⟨_, r⟩ => by rw [List.length_cons, List.length_cons, RowsIn.length r]
  | [], _ :: _, h => h.elim
  | _ :: _, [], h => h.elim
theorem psts_rows (r : Nat) (row : List Cell) : ∀ n, ∀ cs ∈ (psts r row n).2, cs.Sublist row
  | 0, cs, h => nomatch h
  | n + 1, cs, h => by
    have s1 := psts_sub r row n
    simp only [psts, pst] at h
    split at h
    · exact psts_rows r row n cs h
    · rcases List.mem_append.mp h with h | h
      · exact psts_rows r row n cs h
      · rw [List.mem_singleton.mp h]; exact (split_sub r _ []).1.trans s1
theorem reads_rows {h : Heap} {tl : List (Addr × Obj)} (ht : ∀ q ∈ tl, h.get? q.1 = some q.2) : ∀ {vs : List Value} {rs : List (List Cell)}, RowsIn tl vs rs → (∀ cs ∈ rs, ∀ c ∈ cs, CellAt h c) → ∃ x, ReadsAll h vs ((rs.map fun l => l.map (·.2)).map rowD) x
  | [], [], _, _ => ⟨[], .nil⟩
  | _ :: _, cs :: rs, ⟨⟨a, k, e, q⟩, r⟩, hc => by
    obtain ⟨x, hx⟩ := reads_rows ht r fun cs hcs => hc cs (.tail _ hcs)
    subst e
    exact ⟨_, .cons (reads_row ⟨_, ht _ q, rfl, k, rfl⟩ (hc cs (.head _))) hx⟩
  | [], _ :: _, h, _ => h.elim
  | _ :: _, [], h, _ => h.elim
theorem psts_len (r : Nat) (row : List Cell) : ∀ n, (psts r row n).2.length ≤ n
  | 0 => Nat.le_refl _
  | n + 1 => by
    have := psts_len r row n
    simp only [psts, pst]
    split
    · omega
    · rw [List.length_append, List.length_singleton]; omega
section
variable {prog : Program} {w : World} {A : Around} {E : Value → Shared → Prop} {s : Shared} {h₀ : Heap} {L : Addr} {m : Str → Option Value} {Q : Value → Shared → Prop}
theorem len_cells {l : Addr} {cs : List Cell} (hl : h₀.IsList l (refs cs).toArray) (F : Fr h₀ L s.heap m) (hz : cs.length ≤ 1000) (h : Q (.int (cs.length : Int) (s.toks + 1)) { s with toks := s.toks + 1 + 1 }) :
    wpAny (model prog w) A (call (.builtin "len") [.ref l]) Q E s := by
  have e : (refs cs).toArray.size = cs.length := by simp
  refine len_list (hl.at fun o q => F.keep _ o q) (by rw [e]; omega) ?_
  rw [e]; exact h
end
local macro_rules | `(tactic| walk_at "call builtin:len") => `(tactic| (k_here; k_dflt (refine' len_cells ?l ?F ?z ?_; (case l => k_asm); (case F => k_asm); (case z => omega); k_whole)))
local macro_rules | `(tactic| k_all) => `(tactic| assumption)
local macro_rules | `(tactic| size_fits) => `(tactic| ((simp only [List.size_toArray, List.length_map, PySem.sizeLine_eq]); omega))
section
variable {prog : Program} {w : World} {s : Shared} {b₀ : Heap} {p : Program} {loose : List Str} {mean : ExcName → Option Value} {mg mb : Str → Option Value} {Q : Value → Shared → Prop} {E : Value → Shared → Prop}
  {dp un : Nat} {fr : Option (List Env)} {gd : Option (List Code)}
set_option maxRecDepth 100000 in
set_option maxHeartbeats 8000000 in
theorem passes_spec {rw : Addr} {row : List Cell} {nr room : Nat} {tr : Tok} {ps : Array Value}
    (X : (hd.heap_39 w.params).In b₀) (T : Top p loose mean mg mb b₀) (C : CodeHd b₀ 48 44) (st : b₀.StaysIn s.heap) (h44 : b₀.get? 44 = none)
    (htab : s.heap.get? 44 = some (tabObj ps)) (hps : TabIs s.heap ps) (hr : s.heap.get? rw = some (listOf (refs row).toArray nr)) (hrc : ∀ c ∈ row, CellAt s.heap c) (hrl : row.length ≤ 20) (hkb : ∀ c ∈ row, Kb c ∧ -100 < ekey c) (hnd : (row.map ekey).Nodup)
    (h1 : 1 ≤ room) (h3 : room ≤ 3) (hd : dp + 70 < recursionLimit) (hu : un + 300 < cLine)
    (hret : ∀ h' tk P ps' x, (∀ b o, b ≠ 44 → s.heap.get? b = some o → h'.get? b = some o) → h'.get? 44 = some (tabObj ps') → Reads h' (.ref P) (rowsD ((psts room row row.length).2.map fun l => l.map (·.2))) x → Q (.ref P) { s with heap := h', toks := tk }) :
    wpAny (model prog w) ⟨none, dp, fr, gd, un⟩ (call (.ref 56) [.ref rw, .int (room : Int) tr]) Q E s := by
  refine' enter' (news := [(44, tabObj ps)]) X T st (news_one htab h44) ?ho ?hcd ?room ?hbind ?hloc ?_ ?c2 ?c3 ?c4 ?c5
  case ho => k_is
  case hcd => k_is
  case room => show dp < _; omega
  case hbind => exact BindsTo.of_eq rfl
  case hloc => exact locs rfl
  case c5 => decide
  case c2 => rfl
  case c3 => rfl
  case c4 => rfl
  intro g L' h' hg F' N' X' T' l1 hL0
  k_lt l1
  have C' : CodeHd g 48 44 := C.keeps fun b o e => hg b o (st b o e) (by
    have : b ≠ 44 := fun q => by rw [q, h44] at e; cases e
    simpa using this)
  have hne : rw ≠ 44 := fun q => by
    rw [q, htab] at hr
    have e := congrArg Obj.data (Option.some.inj hr)
    cases e
  have hr' := hg _ _ hr (by simpa using hne)
  have hR : g.IsList rw (refs row).toArray := ⟨_, hr', rfl, nr, rfl⟩
  have hrc' : ∀ c ∈ row, CellAt g c := fun c m => by
    obtain ⟨t, u, k, e⟩ := hrc c m
    exact ⟨t, u, k, hg _ _ e (by
      have : c.1 ≠ 44 := fun q => by
        rw [q, htab] at e
        have := congrArg Obj.data (Option.some.inj e)
        cases this
      simpa using this)⟩
  clear C X T st
  try dsimp only
  repeat ((fail_if_success (with_reducible show wpAny _ _ (exec (Stmt.For _ _ _ _ _) _) _ _ _)); (first | walk1 | (dsimp only; walk1)))
  refine For_invV g rfl rfl ?_ (by intro _; rfl) (by passes_own)
  repeat ((fail_if_success (with_reducible show wpAny _ _ (pyIter _) _ _ _)); (first | walk1 | (dsimp only; walk1)))
  rename_i P hp1 lP hp2 hp3 F1 N1 hp4 tk4 t4 u4 v4 hR4 F4 N4 k4
  refine loop_rangeO (n := row.length) (fun i m nx => m (Str.ofString "room") = some (.int (room : Int) tr) ∧ m (Str.ofString "passes") = some (.ref P) ∧
    ∃ lft vs n tl ps', m (Str.ofString "left") = some (.ref lft) ∧ nx = (P, listOf vs.toArray n) :: (44, tabObj ps') :: tl ∧ (∀ q ∈ tl, q.1 ≠ P) ∧ (∀ q ∈ tl, q.1 ≠ 44) ∧
      LeftIn g tl lft (psts room row i).1 ∧ RowsIn tl vs (psts room row i).2 ∧ TabIn g tl ps')
    rfl hR4 (small_one (by omega) (by omega) (by omega) (by omega)) (by rw [rangeSize_nat]; omega) F4 N4 ⟨rfl, rfl, rw, [], 0, [], ps, rfl, rfl, (fun _ q => nomatch q), (fun _ q => nomatch q), .inl ⟨nr, hr'⟩, trivial, ?_⟩ ?_ ?_
  · rcases hps with e | ⟨c', oc, vs, t, e1, e2, e3, e4⟩
    · exact .inl e
    · refine .inr ⟨c', oc, vs, t, e1, .inl (hg _ _ e2 ?_), e3, e4⟩
      have hc44 : c' ≠ 44 := fun q => by
        subst e1
        rw [q, htab] at e2
        have e := congrArg Obj.data (Option.some.inj e2)
        rw [e3] at e
        have e' : #[rawInt 45, rawInt 29, Value.ref c'] = vs := by cases e; rfl
        rw [← e'] at e4
        cases e4
      simpa using hc44
  · rintro i t m₁ nx I h tk oI ⟨vI, hvI, hvI'⟩ hi hLI hnI ⟨hm1, hm2, lft, vs, n, tl, ps', hm3, rfl, ht1, ht2, hleft, hrows, htabs⟩ F₁ N₁
    have F2 := fr_put (fr_put (fr_put F₁ (Str.ofString "room") (v := .int (room : Int) tr) (by rw [if_neg (by decide)]; exact hm1)) (Str.ofString "passes") (v := .ref P) (by (repeat rw [if_neg (by decide)]); exact hm2)) (Str.ofString "left") (v := .ref lft) (by (repeat rw [if_neg (by decide)]); exact hm3)
    have d1 : @Ne Nat P I := hnI (P, _) (.head _)
    have d2 : @Ne Nat 44 I := hnI (44, _) (.tail _ (.head _))
    have d3 : ∀ q ∈ tl, q.1 ≠ I := fun q hq => hnI q (.tail _ (.tail _ hq))
    have sub := psts_sub room row i
    have hpl := psts_len room row i
    have hvl := hrows.length
    have eS : psts room row (i + 1) = pst room (psts room row i) := rfl
    rw [eS]
    generalize psts room row i = acc at *
    have hcl : ∀ c ∈ acc.1, CellAt g c := fun c q => hrc' c (sub.subset q)
    clear F₁ hm1 hm2 hm3 F4 N4 k4 hR4 F1 N1
    repeat ((fail_if_success (with_reducible show wpAny _ _ (compareOp _ _ _) _ _ _)); (first | walk1 | (dsimp only; walk1)))
    rename_i D hD F3 N3 lD
    obtain ⟨kl, hlft⟩ := hleft.get F3 N3 (fun q hq => .tail _ (.tail _ (.tail _ (.tail _ hq))))
    refine ne_nil (cs := acc.1) ⟨_, hlft, rfl, kl, rfl⟩ ⟨_, News.get N3 (.head _), rfl, 0, rfl⟩ (fun c q => (hcl c q).keeps F3.keep) ?qu ?_
    case qu => ((try simp only [units_in1, units_deeper, Around.mark_units]); omega)
    by_cases hem : acc.1.isEmpty = true
    · have e1 : pst room acc = acc := by rw [pst, if_pos hem]
      rw [hem, e1, Bool.not_true]
      k_steps
      exact TurnEnd.intro F3 (fun q hq => N3 q (.tail _ hq)) (List.forall_mem_cons.mpr ⟨d1, List.forall_mem_cons.mpr ⟨d2, d3⟩⟩) ⟨rfl, rfl, lft, vs, n, tl, ps', rfl, rfl, ht1, ht2, hleft, hrows, htabs⟩
    · have e1 : pst room acc = ((splitP room [] acc.1).2, acc.2 ++ [(splitP room [] acc.1).1]) := by rw [pst, if_neg hem]
      rw [show acc.1.isEmpty = false by simpa using hem, e1, Bool.not_false]
      k_steps
      refine onepass_spec (b₀ := g) X' T' C' F3.keep (News.fresh N3 (a := 44) (.tail _ (.tail _ (.tail _ (.head _))))) (News.get N3 (.tail _ (.tail _ (.tail _ (.head _))))) (htabs.is F3 N3 (fun q hq => .tail _ (.tail _ (.tail _ (.tail _ hq))))) hlft (fun c q => (hcl c q).keeps F3.keep) (Nat.le_trans sub.length_le hrl) (fun c q => hkb c (sub.subset q)) ((sub.map ekey).nodup hnd) h1 h3 ?qd ?qu2 ?_
      case qd => ((try simp only [depth_under_make, depth_under_kw, depth_in1, depth_deeper, depth_caller]); omega)
      case qu2 => ((try simp only [units_in1, units_deeper, Around.mark_units]); omega)
      intro h9 tk9 r y z n1 n2 n3 ps2 k9 e44 et er ey ez ly lz lr
      have ly := ltN (show hD.objs.size < y from ly)
      have lz := ltN lz
      have lr := ltN lr
      have lP9 := ltN (Heap.lt_size (News.get N3 (.tail _ (.tail _ (.head _)))))
      have lI9 := ltN (Heap.lt_size (News.get N3 (.tail _ (.head _))))
      have l449 := ltN (Heap.lt_size (News.get N3 (.tail _ (.tail _ (.tail _ (.head _))))))
      have ltl : ∀ q ∈ tl, @LT.lt Nat _ q.1 hD.objs.size := fun q hq => Heap.lt_size (N3 q (.tail _ (.tail _ (.tail _ (.tail _ hq))))).1
      refine' back_one F3 N3 (Upd.tail ?w1 (Upd.tail ?w2 (Upd.tail ?w3 (Upd.head ht2)))) k9 e44 ?_
      case w1 => exact neN (by omega)
      case w2 => exact neN (by omega)
      case w3 => exact neN (by omega)
      intro F5 N5
      obtain ⟨ex, tx1, tx2, tx3, tx4⟩ := et.in F5 e44
      have tx5 : ∀ q ∈ ex, q.1 ≠ I := code_ne tx2 tx4 (News.get N5 (.tail _ (.head _))) (fun vs x t e e' => hvI' x t (by rw [hvI] at e; cases e; exact e'))
      have tx6 : ∀ q ∈ ex, q.1 ≠ P := code_ne tx2 tx4 (News.get N5 (.tail _ (.tail _ (.head _)))) (fun vs x t e e' => by cases e)
      have F5 : Fr g L' h9 _ := F5
      have N6 : News g L' h9 ((I, oI) :: (P, listOf vs.toArray n) :: (44, tabObj ps2) :: (ex ++ tl)) := by
        intro q hq
        rcases List.mem_cons.mp hq with rfl | hq
        · exact N5 _ (.tail _ (.head _))
        · rcases List.mem_cons.mp hq with rfl | hq
          · exact N5 _ (.tail _ (.tail _ (.head _)))
          · rcases List.mem_cons.mp hq with rfl | hq
            · exact N5 _ (.tail _ (.tail _ (.tail _ (.head _))))
            · rcases List.mem_append.mp hq with hq | hq
              · exact tx2 q hq
              · exact N5 _ (.tail _ (.tail _ (.tail _ (.tail _ hq))))
      have lL := ltN (show L' < hD.objs.size from F3.ns.lt)
      have N7 := news_add F5 (news_add F5 (news_add F5 N6 ey (show L' < y from ltN (by omega))) ez (show L' < z from ltN (by omega))) er (show L' < r from ltN (by omega))
      have hallP : ∀ q ∈ ex ++ tl, q.1 ≠ P := fun q hq => (List.mem_append.mp hq).elim (tx6 q) (ht1 q)
      clear N5 N6 F3 N3 k9 e44 et er ey ez
      try dsimp only
      k_steps
      rename_i q1 q2 q3 q4 F9 N9
      have mz : ∀ {o : Obj} {q : Addr × Obj}, q ∈ ex ++ tl → q ∈ (z, o) :: (y, listOf (refs (splitP room [] acc.1).1).toArray n1) :: (ex ++ tl) := fun h => .tail _ (.tail _ h)
      refine TurnEnd.intro F9 (nx := (P, listOf (vs ++ [Value.ref y]).toArray (n + 1)) :: (44, tabObj ps2) :: (z, listOf (refs (splitP room [] acc.1).2).toArray n2) :: (y, listOf (refs (splitP room [] acc.1).1).toArray n1) :: (ex ++ tl)) ?qN ?qn
        ⟨rfl, rfl, z, vs ++ [.ref y], n + 1, _, ps2, rfl, rfl, ?qa, ?qb, .inr ⟨n2, .head _⟩, RowsIn.snoc (k := n1) (.tail _ (.head _)) (hrows.mono fun q hq => mz (List.mem_append.mpr (.inr hq))), tx1.mono fun q hq => mz (List.mem_append.mpr (.inl hq))⟩
      case qN =>
        have ep : vs.toArray.push (Value.ref y) = (vs ++ [Value.ref y]).toArray := by simp
        rw [ep] at N9
        intro q hq
        rcases List.mem_cons.mp hq with rfl | hq
        · exact N9 _ (by k_mem)
        · rcases List.mem_cons.mp hq with rfl | hq
          · exact N9 _ (by k_mem)
          · rcases List.mem_cons.mp hq with rfl | hq
            · exact N9 _ (by k_mem)
            · rcases List.mem_cons.mp hq with rfl | hq
              · exact N9 _ (by k_mem)
              · rcases List.mem_cons.mp hq with rfl | hq
                · exact N9 _ (by k_mem)
                · exact N9 _ (.tail _ (.tail _ (.tail _ (.tail _ (.tail _ (.tail _ hq))))))
      case qn => exact List.forall_mem_cons.mpr ⟨d1, List.forall_mem_cons.mpr ⟨d2, List.forall_mem_cons.mpr ⟨neN (by omega), List.forall_mem_cons.mpr ⟨neN (by omega), fun q hq => (List.mem_append.mp hq).elim (tx5 q) (d3 q)⟩⟩⟩⟩
      case qa => exact List.forall_mem_cons.mpr ⟨neN (by omega), List.forall_mem_cons.mpr ⟨neN (by omega), hallP⟩⟩
      case qb => exact List.forall_mem_cons.mpr ⟨neN (by omega), List.forall_mem_cons.mpr ⟨neN (by omega), fun q hq => (List.mem_append.mp hq).elim (tx3 q) (ht2 q)⟩⟩
  · rintro m₁ nx h tk ⟨hm1, hm2, lft, vs, n, tl, ps', hm3, rfl, ht1, ht2, hleft, hrows, htabs⟩ F₁ N₁
    have F2 := fr_put F₁ (Str.ofString "passes") (v := .ref P) hm2
    clear F₁ hm1 hm2 hm3
    dsimp only
    k_steps
    obtain ⟨x, hx⟩ := reads_rows (h := h) (tl := tl) (fun q hq => (N₁ q (.tail _ (.tail _ hq))).1) hrows (fun cs hcs c hc => (hrc' c ((psts_rows room row _ cs hcs).subset hc)).keeps F2.keep)
    exact hret h _ P ps' _ (fun b o hb e => F2.keep b o (hg b o e (by simpa using hb))) (News.get N₁ (.tail _ (.head _))) (.list (News.get N₁ (.head _)) rfl rfl (by simpa using hx))
end
end Mj
end
section
open PySem PySem.W PyProof.Rows PySem.Calls PySem.Spec
namespace Mj
/-! ## the plain law, III: the passes are the ranks -/
def lv (p : Int) (a : List (Cell × Int)) : List Cell := (a.filter fun q => decide (p ≤ q.2)).map (·.1)
def ex (p : Int) (a : List (Cell × Int)) : List Cell := (a.filter fun q => decide (q.2 = p)).map (·.1)
theorem count_ahead {r : Nat} {a : List (Cell × Int)} {x : Cell} {p : Int} (hp : 1 ≤ p) : ((aheadL r a x).filter fun n => decide (p ≤ n)).length = ((lv p a).filter fun y => decide (ekey x < ekey y)).length := by
  unfold aheadL lv
  have z : (List.replicate r (0 : Int)).filter (fun n => decide (p ≤ n)) = [] := by
    rw [List.filter_eq_nil_iff]; intro n hn; have := (List.mem_replicate.mp hn).2; simp; omega
  rw [List.filter_append, z, List.nil_append, List.filter_map, List.filter_map, List.length_map, List.length_map, List.filter_filter, List.filter_filter]
  congr 2
  funext q
  simp only [Function.comp]
  exact Bool.and_comm _ _
theorem thru_rank {r : Nat} {a : List (Cell × Int)} {x : Cell} {p : Int} (h1 : 1 ≤ r) (hp : 1 ≤ p) (hge : p ≤ rankOf r a x) : thru r (lv p a) x = decide (rankOf r a x = p) := by
  unfold thru
  rw [← count_ahead (r := r) hp]
  have k := kth_lt (r := r) (l := aheadL r a x) (q := p) h1 (by unfold aheadL; rw [List.length_append, List.length_replicate]; omega)
  have e : rankOf r a x = 1 + kth r (aheadL r a x) := rfl
  by_cases c : kth r (aheadL r a x) < p
  · rw [decide_eq_true (k.mp c), decide_eq_true (by omega)]
  · rw [decide_eq_false (fun h => c (k.mpr h)), decide_eq_false (by omega)]
theorem split_level {r : Nat} {p : Int} (h1 : 1 ≤ r) (hp : 1 ≤ p) : ∀ (t : List Cell) (a : List (Cell × Int)), ∃ b, t.foldl (rstep r) a = a ++ b ∧ splitP r (lv p a) (lv p b) = (ex p b, lv (p + 1) b)
  | [], a => ⟨[], by simp, rfl⟩
  | x :: t, a => by
    obtain ⟨b, e, hs⟩ := split_level h1 hp t (a ++ [(x, rankOf r a x)])
    refine ⟨(x, rankOf r a x) :: b, by rw [List.foldl_cons]; show List.foldl _ (a ++ [(x, rankOf r a x)]) t = _; rw [e]; simp, ?_⟩
    by_cases c : p ≤ rankOf r a x
    · have e1 : lv p (a ++ [(x, rankOf r a x)]) = lv p a ++ [x] := by simp [lv, c]
      have e2 : lv p ((x, rankOf r a x) :: b) = x :: lv p b := by simp [lv, c]
      rw [e1] at hs
      rw [e2, splitP, hs, thru_rank h1 hp c]
      by_cases d : rankOf r a x = p
      · rw [if_pos (decide_eq_true d)]
        have e3 : ex p ((x, rankOf r a x) :: b) = x :: ex p b := by simp [ex, d]
        have e4 : lv (p + 1) ((x, rankOf r a x) :: b) = lv (p + 1) b := by
          unfold lv; rw [List.filter_cons, if_neg (by simp; omega)]
        rw [e3, e4]
      · rw [if_neg (by simpa using d)]
        have e3 : ex p ((x, rankOf r a x) :: b) = ex p b := by simp [ex, d]
        have e4 : lv (p + 1) ((x, rankOf r a x) :: b) = x :: lv (p + 1) b := by
          unfold lv; rw [List.filter_cons, if_pos (by simp; omega)]; rfl
        rw [e3, e4]
    · have e1 : lv p (a ++ [(x, rankOf r a x)]) = lv p a := by simp [lv, c]
      have e2 : lv p ((x, rankOf r a x) :: b) = lv p b := by simp [lv, c]
      have e3 : ex p ((x, rankOf r a x) :: b) = ex p b := by
        unfold ex; rw [List.filter_cons, if_neg (by simp; omega)]
      have e4 : lv (p + 1) ((x, rankOf r a x) :: b) = lv (p + 1) b := by
        unfold lv; rw [List.filter_cons, if_neg (by simp; omega)]
      rw [e1] at hs
      rw [e2, e3, e4, hs]
theorem split_prs {r : Nat} {p : Int} (h1 : 1 ≤ r) (hp : 1 ≤ p) (row : List Cell) : splitP r [] (lv p (prs r row)) = (ex p (prs r row), lv (p + 1) (prs r row)) := by
  obtain ⟨b, e, hs⟩ := split_level h1 hp row []
  rw [show prs r row = b by unfold prs; rw [e]; simp]
  exact hs
theorem psts_prs {r : Nat} {row : List Cell} {M : Nat} (h1 : 1 ≤ r) (hM : ∃ q ∈ prs r row, q.2 = (M : Int)) (hm : ∀ q ∈ prs r row, q.2 ≤ (M : Int)) :
    ∀ n : Nat, psts r row n = (lv (1 + (n : Int)) (prs r row), (List.range (min n M)).map fun (i : Nat) => ex (1 + (i : Int)) (prs r row))
  | 0 => by
    have e : lv (1 + ((0 : Nat) : Int)) (prs r row) = row := by
      unfold lv
      rw [List.filter_eq_self.mpr (fun q hq => by have := (prs_bounds h1 row q hq).1; simpa using this)]
      exact prs_fst r row
    rw [e]; simp [psts]
  | n + 1 => by
    simp only [psts, pst]
    rw [psts_prs h1 hM hm n]
    obtain ⟨q, hq, hqM⟩ := hM
    by_cases c : M ≤ n
    · have e0 : ∀ k : Nat, n ≤ k → lv (1 + (k : Int)) (prs r row) = [] := fun k hk => by
        unfold lv
        rw [List.filter_eq_nil_iff.mpr (fun q hq => by have := hm q hq; simp; omega)]; rfl
      rw [e0 n (Nat.le_refl _), e0 (n + 1) (by omega), Nat.min_eq_right c, Nat.min_eq_right (by omega)]
      rfl
    · have hne : (lv (1 + (n : Int)) (prs r row)).isEmpty = false := by
        cases e : lv (1 + (n : Int)) (prs r row) with
        | cons _ _ => rfl
        | nil =>
          have : q.1 ∈ lv (1 + (n : Int)) (prs r row) := List.mem_map.mpr ⟨q, List.mem_filter.mpr ⟨hq, by simp; omega⟩, rfl⟩
          rw [e] at this; cases this
      rw [if_neg (by simp [hne]), split_prs h1 (by omega), Nat.min_eq_left (by omega), Nat.min_eq_left (by omega), List.range_succ, List.map_append]
      have e1 : 1 + (n : Int) + 1 = 1 + ((n + 1 : Nat) : Int) := by omega
      rw [e1]; rfl
theorem passes_due {r : Nat} {row : List Cell} {M : Nat} (h1 : 1 ≤ r) (hM : ∃ q ∈ prs r row, q.2 = (M : Int)) (hm : ∀ q ∈ prs r row, q.2 ≤ (M : Int)) :
    (psts r row row.length).2 = (List.range M).map fun (i : Nat) => ((prs r row).filter fun q => decide (q.2 = 1 + (i : Int))).map (·.1) := by
  rw [psts_prs h1 hM hm]
  obtain ⟨q, hq, e⟩ := hM
  have := (prs_bounds h1 row q hq).2
  rw [Nat.min_eq_right (by omega)]
  rfl
end Mj
end
section
open PySem PySem.W PyProof.Rows PySem.Calls PySem.Spec
namespace Mj
/-! ## a loop over a range whose name is a cell -/
section
variable {prog : Program} {w : World} {A : Around} {s : Shared} {h₀ : Heap} {L a : Addr} {cn : Str} {cs : Scope} {ccd : Value} {cl : List (Str × Addr)} {x : Str} {px pos : Pos} {body : List Stmt} {Q : Flow → Shared → Prop}
def TurnEndC (h₀ : Heap) (L I c : Addr) (oI : Obj) (J : (Str → Option Value) → List (Addr × Obj) → Prop) (s : Shared) (Q : Flow → Shared → Prop) (f : Flow) (s₂ : Shared) : Prop :=
  match f with
  | .ret v => Q (.ret v) s₂
  | .brk => Q .next s₂
  | _ => ∃ h' tk m' oc v nx, s₂ = { s with heap := h', toks := tk } ∧ Fr h₀ L h' m' ∧ News h₀ L h' ((I, oI) :: (c, oc) :: nx) ∧ oc.data = .cell v ∧ (∀ p ∈ nx, p.1 ≠ I) ∧ (∀ p ∈ nx, p.1 ≠ c) ∧ c ≠ I ∧ J m' nx
theorem loop_rangeC {r c : Addr} {oc : Obj} {v₀ : Option Value} {a₀ b₀ : Int} {t₀ u₀ w₀ : Tok} {n : Nat} {m₀ : Str → Option Value} {news : List (Addr × Obj)} (J : Nat → (Str → Option Value) → List (Addr × Obj) → Prop)
    (hh : A.handled = none) (hr : IsRange s.heap r a₀ b₀ 1 t₀ u₀ w₀) (hsmall : Builtin.Range.small a₀ b₀ 1 = true) (hsz : Builtin.Range.rangeSize a₀ b₀ 1 = (n : Int))
    (hc : cl.lookup x = some c) (hk : cs.kind = .function) (hx : (envX cn cs L a ccd cl).kindOf x = some .cell)
    (F : Fr h₀ L s.heap m₀) (N : News h₀ L s.heap ((c, oc) :: news)) (hoc : oc.data = .cell v₀) (hcn : ∀ p ∈ news, p.1 ≠ c) (hj : J 0 m₀ news)
    (turn : ∀ i t m₁ oc nx I h tk oI, i < n → L < I → c ≠ I → (∀ p ∈ nx, p.1 ≠ I) → (∀ p ∈ nx, p.1 ≠ c) → J i m₁ nx → oc.data = .cell (some (.int (a₀ + (i : Int)) t)) → Fr h₀ L h m₁ → News h₀ L h ((I, oI) :: (c, oc) :: nx) →
      wpAny (model prog w) A (execs body (envX cn cs L a ccd cl)) (TurnEndC h₀ L I c oI (J (i + 1)) s Q) (fun _ _ => False) { s with heap := h, toks := tk })
    (done : ∀ m₁ oc v nx h tk, J n m₁ nx → oc.data = .cell v → (∀ p ∈ nx, p.1 ≠ c) → Fr h₀ L h m₁ → News h₀ L h ((c, oc) :: nx) → Q .next { s with heap := h, toks := tk }) :
    wpAny (model prog w) A (pyIter (.ref r)) (fun it s₂ => codeAny (model prog w) A (.forLoop (.Name x px) it body [] (envX cn cs L a ccd cl))
      (fun r s' => match r with | .ok f => Q f s' | .error e => cameBackBy (model prog w) A (envX cn cs L a ccd cl) (fun _ _ => False) e s') s₂) (fun _ _ => False) s := by
  refine wpAny_pyIter_range hr hsmall ?_
  generalize hI : s.heap.objs.size = I
  have W : Walks prog w A I [I] [I] n (fun i v => i < n ∧ ∃ t, v = .int (a₀ + i * 1) t)
      (fun i h => IsRangeIter h I (a₀ + (i : Nat) * 1) ((n : Int) - (i : Nat)) 1) := (Walks.range hh _ a₀ 1 n).bound
  have hI0 : h₀.get? I = none := hI ▸ next_is_new F
  have hLI : L < I := hI ▸ F.ns.lt
  refine codeAny_forLoop
    (fun k s' => ∃ h' tk m' oc v nx i, s' = { s with heap := h', toks := tk } ∧ IsRangeIter h' I (a₀ + ((i : Nat) : Int) * 1) ((n : Int) - (i : Nat)) 1 ∧ Fr h₀ L h' m' ∧ News h₀ L h' ((c, oc) :: nx) ∧ oc.data = .cell v ∧ c ≠ I ∧ (∀ p ∈ nx, p.1 ≠ I) ∧ (∀ p ∈ nx, p.1 ≠ c) ∧ J i m' nx ∧ i ≤ n ∧ k = n + 1 - i) ?_ (n + 1)
    ⟨_, _, m₀, oc, v₀, news, 0, rfl, ?_, F.push _, fun p hp => ⟨Heap.get?_push_of_some _ (N p hp).1, (N p hp).2⟩, hoc, ?_, ?_, hcn, hj, Nat.zero_le _, rfl⟩
  · rintro k s' ⟨h', tk, m', oc', v', nx, i, rfl, hst, F', N', hoc', hcI, hnI, hnc, hJ, hi, rfl⟩
    have next : ∀ h₁ : Heap, (∀ b o, b ∉ [I] → h'.get? b = some o → h₁.get? b = some o) → Fr h₀ L h₁ m' ∧ News h₀ L h₁ ((c, oc') :: nx) := fun h₁ hk₁ =>
      ⟨⟨F'.ns.at' fun o e => hk₁ _ o (by simpa using Nat.ne_of_lt hLI) e, fun b o e => hk₁ b o (fun q => by rw [List.mem_singleton.mp q, hI0] at e; cases e) (F'.keep b o e), F'.above⟩,
        fun p hp => ⟨hk₁ _ _ (fun q => by
          have q := List.mem_singleton.mp q
          rcases List.mem_cons.mp hp with rfl | hp
          · exact hcI q
          · exact hnI p hp q) (N' p hp).1, (N' p hp).2⟩⟩
    by_cases hlt : i < n
    · refine W.item i _ _ _ hlt hst fun v h₁ tk₁ hP hst₁ hk₁ => ?_
      obtain ⟨_, t, rfl⟩ := hP
      obtain ⟨F₁, N₁⟩ := next h₁ hk₁
      have e1 : a₀ + (i : Int) * 1 = a₀ + (i : Int) := by omega
      rw [e1]
      obtain ⟨oI, hoI, hst₂⟩ : ∃ oI, h₁.get? I = some oI ∧ ∀ h : Heap, h.get? I = some oI → IsRangeIter h I (a₀ + (((i + 1 : Nat)) : Int) * 1) ((n : Int) - ((i + 1 : Nat) : Int)) 1 := ⟨_, hst₁, fun h e => e⟩
      have N₁' : News h₀ L h₁ ((I, oI) :: (c, oc') :: nx) := List.forall_mem_cons.mpr ⟨⟨hoI, Nat.ne_of_gt hLI, hI0⟩, N₁⟩
      refine wpAny_assign_Name (storeX_C F₁ N₁' hc (.tail (Ne.symm hcI) (.head hnc)) hoc' (fun h₂ o' F₂ N₂ ho' => ?_) hk hx)
      refine wpAny_mono (turn i t m' o' nx I h₂ _ _ hlt hLI hcI hnI hnc hJ ho' F₂ N₂) (fun f s₃ h₃ => ?_) (fun _ _ e => e.elim)
      have fin : (∃ h' tk m' oc v nx', s₃ = { s with heap := h', toks := tk } ∧ Fr h₀ L h' m' ∧ News h₀ L h' ((I, oI) :: (c, oc) :: nx') ∧ oc.data = .cell v ∧ (∀ p ∈ nx', p.1 ≠ I) ∧ (∀ p ∈ nx', p.1 ≠ c) ∧ c ≠ I ∧ J (i + 1) m' nx') →
          ∃ m, m < n + 1 - i ∧ ∃ h' tk m' oc v nx i, s₃ = { s with heap := h', toks := tk } ∧ IsRangeIter h' I (a₀ + ((i : Nat) : Int) * 1) ((n : Int) - (i : Nat)) 1 ∧ Fr h₀ L h' m' ∧ News h₀ L h' ((c, oc) :: nx) ∧ oc.data = .cell v ∧ c ≠ I ∧ (∀ p ∈ nx, p.1 ≠ I) ∧ (∀ p ∈ nx, p.1 ≠ c) ∧ J i m' nx ∧ i ≤ n ∧ m = n + 1 - i := by
        rintro ⟨h3, tk3, m3, oc3, v3, nx3, rfl, F3, N3, d3, n1, n2, n3, j3⟩
        exact ⟨n + 1 - (i + 1), by omega, h3, tk3, m3, oc3, v3, nx3, i + 1, rfl, hst₂ _ (N3 _ (.head _)).1, F3, fun p hp => N3 p (.tail _ hp), d3, n3, n1, n2, j3, hlt, rfl⟩
      cases f with
      | ret v => exact h₃
      | brk => exact h₃
      | next => exact fin h₃
      | cont => exact fin h₃
    · have hin : i = n := by omega
      subst hin
      refine W.done _ _ _ hst fun h₁ tk₁ hk₁ => wpAny_execs_nil ?_
      obtain ⟨F₁, N₁⟩ := next h₁ hk₁
      exact done m' oc' v' nx h₁ tk₁ hJ hoc' hnc F₁ N₁
  · show IsRangeIter _ _ _ _ _
    rw [hsz]; subst hI; simpa using Heap.get?_push_size _ rfl
  · intro q
    exact absurd (Heap.lt_size (N _ (.head _)).1) (by rw [hI, ← q]; exact Nat.lt_irrefl _)
  · intro p hp q
    exact absurd (Heap.lt_size (N p (.tail _ hp)).1) (by rw [hI, ← q]; exact Nat.lt_irrefl _)
end
end Mj
end
section
open PySem PySem.W PyProof.Rows PySem.Calls PySem.Spec
namespace Mj
/-! ## a comprehension over a range, with one test, closing over cells -/
theorem comp_pick {α : Type} {l : List α} {q : α → Bool} {p : Value → Bool} {F : Value → Value → Prop} {G : α → Value → Prop} (hp : ∀ (j : Nat) t a, l[j]? = some a → p (.int (j : Int) t) = q a)
    (hF : ∀ (j : Nat) t a y, l[j]? = some a → F (.int (j : Int) t) y → G a y) : ∀ (vs ys : List Value) (off : Nat), (∀ (j : Nat) v, vs[j]? = some v → ∃ t, v = .int (((off + j : Nat)) : Int) t) → off + vs.length = l.length →
      Paired F (vs.filter p) ys → Paired G ((l.drop off).filter q) ys
  | [], ys, off, _, hl, h => by
    rw [List.drop_of_length_le (by simp at hl; omega)]
    cases h; exact .nil
  | v :: vs, ys, off, hv, hl, h => by
    obtain ⟨t, rfl⟩ := hv 0 v rfl
    have hlt : off < l.length := by rw [List.length_cons] at hl; omega
    have ha : l[off]? = some l[off] := by simp [hlt]
    have e := hp off t _ ha
    rw [List.drop_eq_getElem_cons hlt]
    have ih := comp_pick hp hF vs
    simp only [Nat.add_zero] at h
    rw [List.filter_cons] at h ⊢
    rw [e] at h
    cases hq : q l[off] with
    | true =>
      rw [hq] at h
      simp only [if_true] at h ⊢
      cases h with
      | cons h1 h2 => exact .cons (hF off t _ _ ha h1) (ih _ (off + 1) (fun j v hj => by have := hv (j + 1) v hj; rw [show off + 1 + j = off + (j + 1) by omega]; exact this) (by rw [List.length_cons] at hl; omega) h2)
    | false =>
      rw [hq] at h
      simp only [Bool.false_eq_true, if_false] at h ⊢
      exact ih _ (off + 1) (fun j v hj => by have := hv (j + 1) v hj; rw [show off + 1 + j = off + (j + 1) by omega]; exact this) (by rw [List.length_cons] at hl; omega) h
def CompGo (prog : Program) (w : World) (A : Around) (env : Env) (scope : Scope) (cl : List (Str × Addr)) (x : Str) (ifs : List Expr) (elt : Expr) (p : Value → Bool) (F : Value → Value → Prop) (Q : Value → Shared → Prop) (E : Value → Shared → Prop) (xv : Value) (s₁ : Shared) : Prop :=
  wpAny (model prog w) A (pyIter xv) (fun it s₂ => ∃ I fp wr n P St, it = .ref I ∧ Walks prog w A I fp wr n P St ∧ n ≤ sizeLine ∧ St 0 s₂.heap ∧ (∀ b ∈ fp, b < s₂.heap.objs.size) ∧
      QuietOnC prog w A env scope cl x ifs elt wr P p F s₂ ∧
      (∀ D h' tk ys (vs : List Value), s₂.heap.get? D = none → h'.IsList D ys → h'.PlainList D ys → vs.length = n → (∀ j v, vs[j]? = some v → P j v) → Paired F (vs.filter p) ys.toList →
        (∀ b o, b ∉ wr → s₂.heap.get? b = some o → h'.get? b = some o) → Q (.ref D) { s₂ with heap := h', toks := tk })) E s₁
section
variable {prog : Program} {w : World} {A : Around} {env : Env} {E : Value → Shared → Prop}
theorem list_comp {s : Shared} {elt iter : Expr} {x : Str} {px : Pos} {ifs : List Expr} {scope : Scope} {cl : List (Str × Addr)} {pos : Pos} {Q : Value → Shared → Prop} (p : Value → Bool) (F : Value → Value → Prop)
    (hclos : closureFor scope env = pure cl) (hcell : ∀ y ∈ scope.names, y.2 ≠ .cell) (hkind : scope.kind = .function)
    (hnames : ∀ y ∈ scope.names, y.2 = .local → scope.names.lookup y.1 = some .local) (hx : scope.names.lookup x = some .local)
    (h : wpAny (model prog w) A (eval iter env) (CompGo prog w A env scope cl x ifs elt p F Q E) E s)
    (hs : ∀ x, foldedSetIterable iter env x = pure x := by intro _; rfl) :
    wpAny (model prog w) A (eval (.ListComp elt [⟨.Name x px, iter, ifs, 0⟩] scope pos) env) Q E s :=
  wpAny_ListComp_free p F hclos hcell hkind hnames hx h hs
end
section
variable {prog : Program} {w : World} {A : Around} {s : Shared} {h₀ : Heap} {L : Addr} {m : Str → Option Value} {news : List (Addr × Obj)} {env : Env} {scope : Scope} {cl : List (Str × Addr)} {x : Str} {c elt : Expr} {Q : Value → Shared → Prop} {E : Value → Shared → Prop}
theorem comp_range {r : Addr} {b₀ : Int} {n : Nat} {t₀ u₀ w₀ : Tok} (p : Value → Bool) (Fv : Value → Value → Prop) (hh : A.handled = none) (hr : IsRange s.heap r 0 b₀ 1 t₀ u₀ w₀) (hb : b₀ = (n : Int)) (hn : n ≤ 1000) (F : Fr h₀ L s.heap m) (N : News h₀ L s.heap news)
    (test : ∀ C oC i t s₃ m₃, i < n → L < C → (∀ q ∈ news, q.1 < C) → LCg.NsObj oC m₃ → m₃ x = some (.int ((i : Nat) : Int) t) → Fr h₀ L s₃.heap m → News h₀ L s₃.heap ((C, oC) :: news) →
      wpAny (model prog w) A (isTrue c (compEnvC scope cl C env) (eval c (compEnvC scope cl C env))) (fun ok s₄ => ok = p (.int ((i : Nat) : Int) t) ∧ Keeps s₃ s₄) (fun _ _ => False) s₃)
    (el : ∀ C oC i t s₃ m₃, i < n → p (.int ((i : Nat) : Int) t) = true → L < C → (∀ q ∈ news, q.1 < C) → LCg.NsObj oC m₃ → m₃ x = some (.int ((i : Nat) : Int) t) → Fr h₀ L s₃.heap m → News h₀ L s₃.heap ((C, oC) :: news) →
      wpAny (model prog w) A (eval elt (compEnvC scope cl C env)) (fun y s₄ => Fv (.int ((i : Nat) : Int) t) y ∧ Keeps s₃ s₄) (fun _ _ => False) s₃)
    (fin : ∀ D h' tk ys k (vs : List Value), vs.length = n → (∀ (j : Nat) v, vs[j]? = some v → ∃ t, v = .int (j : Int) t) → Paired Fv (vs.filter p) ys → Fr h₀ L h' m → News h₀ L h' ((D, listOf ys.toArray k) :: news) → (∀ b o, s.heap.get? b = some o → h'.get? b = some o) → s.heap.get? D = none →
      Q (.ref D) { s with heap := h', toks := tk }) :
    CompGo prog w A env scope cl x [c] elt p Fv Q E (.ref r) s := by
  subst hb
  unfold CompGo
  refine wpAny_pyIter_range hr (small_one (by omega) (by omega) (by omega) (by omega)) ?_
  have hsz : Builtin.Range.rangeSize 0 (n : Int) 1 = (n : Int) := by rw [rangeSize_nat]; omega
  generalize hI : s.heap.objs.size = I
  have W : Walks prog w A I [I] [I] n (fun i v => i < n ∧ ∃ t, v = .int (0 + i * 1) t)
      (fun i h => IsRangeIter h I (0 + (i : Nat) * 1) ((n : Int) - (i : Nat)) 1) := (Walks.range hh _ 0 1 n).bound
  have hI0 : h₀.get? I = none := hI ▸ next_is_new F
  have hLI : L < I := hI ▸ F.ns.lt
  have hnI : ∀ q ∈ news, q.1 < I := fun q hq => hI ▸ Heap.lt_size (N q hq).1
  have hS := fun (o : Obj) => (show (s.heap.push o).objs.size = I + 1 by rw [Heap.size_push, hI])
  have ctx : ∀ (o : Obj) (C : Addr) (s₃ : Shared) (m₃ : Str → Option Value), (s.heap.push o).objs.size ≤ C → s₃.heap.Ns C m₃ → (∀ b o', b ∉ [I] → (s.heap.push o).get? b = some o' → s₃.heap.get? b = some o') →
      L < C ∧ (∀ q ∈ news, q.1 < C) ∧ Fr h₀ L s₃.heap m ∧ ∃ oC, LCg.NsObj oC m₃ ∧ News h₀ L s₃.heap ((C, oC) :: news) := by
    intro o C s₃ m₃ hC hns hk
    rw [hS] at hC
    have hk' : ∀ b o', s.heap.get? b = some o' → s₃.heap.get? b = some o' := fun b o' e => hk b o' (by
      have : b < I := hI ▸ Heap.lt_size e
      simpa using Nat.ne_of_lt this) (Heap.get?_push_of_some _ e)
    obtain ⟨oC, hoC, hN⟩ := LCg.ns_obj hns
    refine ⟨Nat.lt_of_lt_of_le hLI (Nat.le_of_succ_le hC), fun q hq => Nat.lt_of_lt_of_le (hnI q hq) (Nat.le_of_succ_le hC), F.kept hk', oC, hN, List.forall_mem_cons.mpr ⟨⟨hoC, Nat.ne_of_gt (Nat.lt_of_lt_of_le hLI (Nat.le_of_succ_le hC)), Heap.get?_none_of_le (Nat.le_trans F.above (Nat.le_of_lt (Nat.lt_of_lt_of_le hLI (Nat.le_of_succ_le hC))))⟩, N.grown hk'⟩⟩
  refine ⟨I, [I], [I], n, _, _, rfl, W, by rw [sizeLine_eq]; omega, ?_, ?_, ⟨?_, ?_⟩, ?_⟩
  · show IsRangeIter _ _ _ _ _
    rw [hsz]; subst hI; simpa using Heap.get?_push_size _ rfl
  · intro b hb; rw [List.mem_singleton.mp hb, hS]; exact Nat.lt_succ_self _
  · rintro C i v s₃ m₃ E' hC ⟨hi, t, rfl⟩ hns hm hk _
    have e1 : (0 : Int) + (i : Int) * 1 = (i : Int) := by omega
    rw [e1] at hm ⊢
    obtain ⟨a1, a2, a3, oC, a4, a5⟩ := ctx _ C s₃ m₃ hC hns hk
    exact wpAny_tests_one (wpAny_mono (test C oC i t s₃ m₃ hi a1 a2 a4 hm a3 a5) (fun _ _ q => q) fun _ _ e => e.elim)
  · rintro C i v s₃ m₃ E' hC ⟨hi, t, rfl⟩ hpv hns hm hk _
    have e1 : (0 : Int) + (i : Int) * 1 = (i : Int) := by omega
    rw [e1] at hm hpv ⊢
    obtain ⟨a1, a2, a3, oC, a4, a5⟩ := ctx _ C s₃ m₃ hC hns hk
    exact wpAny_mono (el C oC i t s₃ m₃ hi hpv a1 a2 a4 hm a3 a5) (fun _ _ q => q) fun _ _ e => e.elim
  · intro D h' tk ys vs hD _ hpl hlen hP hF hk
    have hk' : ∀ b o', s.heap.get? b = some o' → h'.get? b = some o' := fun b o' e => hk b o' (by
      have : b < I := hI ▸ Heap.lt_size e
      simpa using Nat.ne_of_lt this) (Heap.get?_push_of_some _ e)
    have hD' : s.heap.get? D = none := by
      cases e : s.heap.get? D with
      | none => rfl
      | some o => rw [Heap.get?_push_of_some _ e] at hD; cases hD
    obtain ⟨k, hk2⟩ := hpl
    refine fin D h' tk ys.toList k vs hlen (fun j v hj => ?_) hF (F.kept hk') ?_ hk' hD'
    · obtain ⟨_, t, e⟩ := hP j v hj
      exact ⟨t, by rw [e]; congr 1; omega⟩
    · refine List.forall_mem_cons.mpr ⟨⟨by rw [hk2], ?_, ?_⟩, N.grown hk'⟩
      · intro e
        have e : D = L := e
        obtain ⟨o, _, _, ho, _⟩ := F.ns
        rw [e, ho] at hD'; cases hD'
      · show h₀.get? D = none
        cases e : h₀.get? D with
        | none => rfl
        | some o => rw [F.keep _ _ e] at hD'; cases hD'
end
end Mj
end
section
open PySem PySem.W PyProof.Rows PySem.Calls PySem.Spec
namespace Mj
/-! ## a comprehension of lists over a range, whose own name is a cell -/
def CompCellGo (prog : Program) (w : World) (A : Around) (env : Env) (scope : Scope) (cl : List (Str × Addr)) (e : PySem.Expr) (Q : Value → Shared → Prop) (E : Value → Shared → Prop) (xv : Value) (s₁ : Shared) : Prop :=
  wpAny (model prog w) A (pyIter xv) (fun it s₂ => wpAny (model prog w) A (newList []) (fun acc s₃ =>
      wpAny (model prog w) A (newFunctionEnv scope env.globals cl [] env.qual none .none (some env)) (fun cenv s₄ =>
        codeAny (model prog w) A (.compStart e 0 it acc { cenv with scope := relabel scope env }) (compPost (model prog w) A E none Q acc cenv.locals) s₄) E s₃) E s₂) E s₁
section
variable {prog : Program} {w : World} {A : Around} {env : Env} {E : Value → Shared → Prop} {s : Shared} {elt iter : PySem.Expr} {x : Str} {px : Pos} {scope : Scope} {cl : List (Str × Addr)} {pos : Pos} {Q : Value → Shared → Prop}
theorem list_compC (hclos : closureFor scope env = pure cl) (hkind : scope.kind = .function)
    (hnames : ∀ y ∈ scope.names, y.2 = .local → scope.names.lookup y.1 = some .local)
    (h : wpAny (model prog w) A (eval iter env) (CompCellGo prog w A env scope cl (.ListComp elt [⟨.Name x px, iter, [], 0⟩] scope pos) Q E) E s)
    (hs : ∀ x, foldedSetIterable iter env x = pure x := by intro _; rfl) :
    wpAny (model prog w) A (eval (.ListComp elt [⟨.Name x px, iter, [], 0⟩] scope pos) env) Q E s := by
  rw [eval_ListComp]
  exact wpAny_comprehension_free (use := none) rfl hs hclos hkind hnames h
theorem new_env_cell {Q : Env → Shared → Prop} (hcf : ∀ N, cellsFrom N scope.names cl = (x, N) :: cl) (hpc : ∀ h, pushCells h scope.names = h.push { cls := .type "cell", data := .cell none })
    (h : Q { scope, locals := s.heap.objs.size, globals := env.globals, cells := (x, s.heap.objs.size + 1) :: cl, qual := env.qual, func := none, code := env.code, frame := env.frame, builtins := env.builtins }
      { s with heap := (s.heap.push { cls := .type "dict", data := .dict #[] }).push { cls := .type "cell", data := .cell none } }) :
    wpAny (model prog w) A (newFunctionEnv scope env.globals cl [] env.qual none .none (some env)) Q E s := by
  simp only [newFunctionEnv, Option.isSome_some, if_true]
  refine wpAny_bind (wpAny_alloc ?_)
  refine wpAny_bind (wpAny_layCells _ (fun name kind cells => by cases hkc : kind == NameKind.cell <;> simp [hkc]) _ _ _ _ ?_)
  rw [hcf, hpc]
  rw [show ({ s with heap := s.heap.push { cls := .type "dict", data := .dict #[] } } : Shared).heap.objs.size = s.heap.objs.size + 1 from Heap.size_push ..]
  rw [List.forIn_nil]
  exact wpAny_bind (wpAny_pure (wpAny_pure h))
theorem comp_cells {r : Addr} {a₀ b₀ : Int} {n : Nat} {t₀ u₀ w₀ : Tok} {h₀ : Heap} {L : Addr} {m : Str → Option Value} {news : List (Addr × Obj)} (G : Nat → List Value) (hh : A.handled = none) (hr : IsRange s.heap r a₀ b₀ 1 t₀ u₀ w₀)
    (hsmall : Builtin.Range.small a₀ b₀ 1 = true) (hsz : Builtin.Range.rangeSize a₀ b₀ 1 = (n : Int)) (hn : n ≤ 1000) (F : Fr h₀ L s.heap m) (N : News h₀ L s.heap news)
    (hcf : ∀ N, cellsFrom N scope.names cl = (x, N) :: cl) (hpc : ∀ h, pushCells h scope.names = h.push { cls := .type "cell", data := .cell none })
    (hkx : ∀ C cp, (compEnvC scope ((x, cp) :: cl) C env).kindOf x = some .cell) (hkf : scope.kind = .function)
    (el : ∀ C cp oc i t s₃, i < n → L < C → L < cp → C ≠ cp → (∀ q ∈ news, q.1 < C) → (∀ q ∈ news, q.1 < cp) → oc.data = .cell (some (.int (a₀ + (i : Int)) t)) → s₃.heap.Ns C (fun _ => none) → Fr h₀ L s₃.heap m → News h₀ L s₃.heap ((cp, oc) :: news) →
      wpAny (model prog w) A (eval elt (compEnvC scope ((x, cp) :: cl) C env)) (fun y s₄ => (∃ T k, y = .ref T ∧ s₃.heap.get? T = none ∧ s₄.heap.get? T = some (listOf (G i).toArray k)) ∧ Keeps s₃ s₄) (fun _ _ => False) s₃)
    (fin : ∀ D h' tk k (Ts : List Addr), Ts.length = n → h'.get? D = some (listOf (Ts.map Value.ref).toArray k) → (∀ i T, Ts[i]? = some T → ∃ k, h'.get? T = some (listOf (G i).toArray k)) →
      (∀ b o, s.heap.get? b = some o → h'.get? b = some o) → Q (.ref D) { s with heap := h', toks := tk }) :
    CompCellGo prog w A env scope cl (.ListComp elt [⟨.Name x px, iter, [], 0⟩] scope pos) Q E (.ref r) s := by
  unfold CompCellGo
  refine wpAny_pyIter_range hr hsmall ?_
  generalize hI : s.heap.objs.size = I
  have W : Walks prog w A I [I] [I] n (fun i v => i < n ∧ ∃ t, v = .int (a₀ + i * 1) t)
      (fun i h => IsRangeIter h I (a₀ + (i : Nat) * 1) ((n : Int) - (i : Nat)) 1) := (Walks.range hh _ a₀ 1 n).bound
  refine wpAny_newObj_type (new_env_cell hcf hpc ?_)
  dsimp only
  rw [hsz]
  have eI : ∀ o, (s.heap.push o).objs.size = I + 1 := fun o => by rw [Heap.size_push, hI]
  have eD : ∀ o o', ((s.heap.push o).push o').objs.size = I + 1 + 1 := fun o o' => by rw [Heap.size_push, eI]
  have eC : ∀ o o' o'', (((s.heap.push o).push o').push o'').objs.size = I + 1 + 1 + 1 := fun o o' o'' => by rw [Heap.size_push, eD]
  simp only [eI, eD]
  have old : ∀ o₁ o₂ o₃ o₄ b o, s.heap.get? b = some o → ((((s.heap.push o₁).push o₂).push o₃).push o₄).get? b = some o := fun _ _ _ _ b o e =>
    Heap.get?_push_of_some _ (Heap.get?_push_of_some _ (Heap.get?_push_of_some _ (Heap.get?_push_of_some _ e)))
  have itI : ∀ o₂ o₃ o₄, IsRangeIter ((((s.heap.push { cls := Value.type "range_iterator", data := Data.fields #[rawInt a₀, rawInt n, rawInt 1] }).push o₂).push o₃).push o₄) I (a₀ + ((0 : Nat) : Int) * 1) ((n : Int) - ((0 : Nat) : Int)) 1 := fun _ _ _ => by
    subst hI
    simpa using Heap.get?_push_of_some _ (Heap.get?_push_of_some _ (Heap.get?_push_of_some _ (Heap.get?_push_size _ rfl)))
  have plD : ∀ o₁ o₃ o₄, ((((s.heap.push o₁).push { cls := Value.type "list", data := Data.seq #[] }).push o₃).push o₄).PlainList (I + 1) #[] := fun o₁ _ _ =>
    ⟨0, Heap.get?_push_of_some _ (Heap.get?_push_of_some _ (by rw [← eI o₁]; exact Heap.get?_push_size _ rfl))⟩
  have nsC : ∀ o₁ o₂ o₄, ((((s.heap.push o₁).push o₂).push { cls := Value.type "dict", data := Data.dict #[] }).push o₄).Ns (I + 1 + 1) (fun _ => none) := fun o₁ o₂ o₄ => by
    have := Heap.Ns.new ((s.heap.push o₁).push o₂) (Value.type "dict")
    rw [eD] at this
    exact this.keeps fun b o e => Heap.get?_push_of_some _ e
  have clC : ∀ o₁ o₂ o₃, ((((s.heap.push o₁).push o₂).push o₃).push { cls := Value.type "cell", data := Data.cell none }).IsCell (I + 1 + 1 + 1) none := fun o₁ o₂ o₃ =>
    ⟨{ cls := Value.type "cell", data := Data.cell none }, by rw [← eC o₁ o₂ o₃]; exact Heap.get?_push_size _ rfl, rfl⟩
  have old := old { cls := Value.type "range_iterator", data := Data.fields #[rawInt a₀, rawInt n, rawInt 1] } { cls := Value.type "list", data := Data.seq #[] } { cls := Value.type "dict", data := Data.dict #[] } { cls := Value.type "cell", data := Data.cell none }
  have itI := itI { cls := Value.type "list", data := Data.seq #[] } { cls := Value.type "dict", data := Data.dict #[] } { cls := Value.type "cell", data := Data.cell none }
  have plD := plD { cls := Value.type "range_iterator", data := Data.fields #[rawInt a₀, rawInt n, rawInt 1] } { cls := Value.type "dict", data := Data.dict #[] } { cls := Value.type "cell", data := Data.cell none }
  have nsC := nsC { cls := Value.type "range_iterator", data := Data.fields #[rawInt a₀, rawInt n, rawInt 1] } { cls := Value.type "list", data := Data.seq #[] } { cls := Value.type "cell", data := Data.cell none }
  have clC := clC { cls := Value.type "range_iterator", data := Data.fields #[rawInt a₀, rawInt n, rawInt 1] } { cls := Value.type "list", data := Data.seq #[] } { cls := Value.type "dict", data := Data.dict #[] }
  generalize ((((s.heap.push { cls := Value.type "range_iterator", data := Data.fields #[rawInt a₀, rawInt n, rawInt 1] }).push { cls := Value.type "list", data := Data.seq #[] }).push { cls := Value.type "dict", data := Data.dict #[] }).push { cls := Value.type "cell", data := Data.cell none }) = H at *
  have hLI : L < I := hI ▸ F.ns.lt
  have hlt : ∀ b o, s.heap.get? b = some o → b < I := fun b o e => hI ▸ Heap.lt_size e
  have hNI : ∀ q ∈ news, q.1 < I := fun q hq => hlt _ _ (N q hq).1
  clear eI eD eC
  have e12 : @Ne Nat (I + 1) I := by omega
  have ni : ∀ b, @Ne Nat b I → b ∉ [I] := fun b h q => h (List.mem_singleton.mp q)
  have loop : ∀ s₃ : Shared, s₃ = { s with heap := H } → codeAny (model prog w) A (.compLoop (.ListComp elt [⟨.Name x px, iter, [], 0⟩] scope pos) 0 (.ref I) (.ref (I + 1)) (compEnvC scope ((x, I + 1 + 1 + 1) :: cl) (I + 1 + 1) env))
      (compPost (model prog w) A E none Q (.ref (I + 1)) (I + 1 + 1)) s₃ := by
    rintro s₃ rfl
    refine codeAny_compLoop_tests
      (fun k s' => ∃ h' tk v, ∃ Ts : List Addr, s' = { s with heap := h', toks := tk } ∧ IsRangeIter h' I (a₀ + ((Ts.length : Nat) : Int) * 1) ((n : Int) - ((Ts.length : Nat) : Int)) 1 ∧ h'.PlainList (I + 1) (Ts.map Value.ref).toArray ∧ h'.IsCell (I + 1 + 1 + 1) v ∧
        (∀ (i : Nat) T, Ts[i]? = some T → @Ne Nat T I ∧ @Ne Nat T (I + 1) ∧ @Ne Nat T (I + 1 + 1) ∧ @Ne Nat T (I + 1 + 1 + 1) ∧ ∃ k, h'.get? T = some (listOf (G i).toArray k)) ∧ Ts.length ≤ n ∧ k = n + 1 - Ts.length ∧
        (∀ b o, @Ne Nat b I → @Ne Nat b (I + 1) → @Ne Nat b (I + 1 + 1 + 1) → H.get? b = some o → h'.get? b = some o)) ?_ (n + 1)
      ⟨H, s.toks, none, [], rfl, itI, plD, clC, fun i T e => (nomatch e), Nat.zero_le _, rfl, fun _ _ _ _ _ e => e⟩
    rintro k s' ⟨h', tk, v₀, Ts, rfl, hst, hacc, hc, hT, hi, rfl, hk⟩
    by_cases hl : Ts.length < n
    · refine W.item Ts.length _ _ _ hl hst fun v h₁ tk₁ hPv hst₁ hk₁ => ?_
      obtain ⟨_, t, rfl⟩ := hPv
      have c₁ : h₁.IsCell (I + 1 + 1 + 1) v₀ := by
        obtain ⟨o, ho, hd⟩ := hc
        exact ⟨o, hk₁ _ _ (ni _ (by omega)) ho, hd⟩
      refine wpAny_assign_Name (wpAny_storeName_cell (c := I + 1 + 1 + 1) (by exact hkf) (hkx _ _) (by simp [compEnvC]) c₁ fun h₂ hc₂ hs₂ => ?_)
      have up : ∀ b o, @Ne Nat b I → @Ne Nat b (I + 1 + 1 + 1) → h'.get? b = some o → h₂.get? b = some o := fun b o h1 h3 e => hs₂.extBut b o h3 (hk₁ b o (ni b h1) e)
      have upH : ∀ b o, s.heap.get? b = some o → h₂.get? b = some o := fun b o e => by
        have := hlt b o e
        have h : @LT.lt Nat _ b I := this
        exact up b o (by omega) (by omega) (hk b o (by omega) (by omega) (by omega) (old b o e))
      have st₂ : IsRangeIter h₂ I (a₀ + ((Ts.length + 1 : Nat) : Int) * 1) ((n : Int) - ((Ts.length + 1 : Nat) : Int)) 1 := W.frame _ _ _ hst₁ fun b hb o e => hs₂.extBut b o (fun q => by
        have hb : @Eq Nat b I := List.mem_singleton.mp hb
        have q : @Eq Nat b (I + 1 + 1 + 1) := q
        omega) e
      have pl₂ : h₂.PlainList (I + 1) (Ts.map Value.ref).toArray := by
        obtain ⟨k, e⟩ := hacc
        exact ⟨k, up _ _ (by omega) (by omega) e⟩
      have ns₂ : h₂.Ns (I + 1 + 1) (fun _ => none) := nsC.at' fun o e => up _ o (by omega) (by omega) (hk _ o (by omega) (by omega) (by omega) e)
      obtain ⟨oc, hoc, hod⟩ := hc₂
      have F₂ : Fr h₀ L h₂ m := F.kept upH
      have N₂ : News h₀ L h₂ ((I + 1 + 1 + 1, oc) :: news) := List.forall_mem_cons.mpr ⟨⟨hoc, by
          have h : @LT.lt Nat _ L I := hLI
          exact neN (by omega), Heap.get?_none_of_le (by
          have h : @LT.lt Nat _ L I := hLI
          have h2 : @LE.le Nat _ h₀.objs.size L := F.above
          show @LE.le Nat _ h₀.objs.size (I + 1 + 1 + 1)
          omega)⟩, N.grown upH⟩
      refine wpAny_tests_nil ?_
      rw [if_pos rfl]
      have e1 : a₀ + ((Ts.length : Nat) : Int) * 1 = a₀ + (Ts.length : Int) := by omega
      rw [e1] at hod
      have lN : ∀ q ∈ news, @LT.lt Nat _ q.1 I := hNI
      have lI : @LT.lt Nat _ L I := hLI
      refine wpAny_mono (el (I + 1 + 1) (I + 1 + 1 + 1) oc Ts.length t _ hl (ltN (by omega)) (ltN (by omega)) (neN (by omega)) (fun q hq => ltN (by have := lN q hq; omega)) (fun q hq => ltN (by have := lN q hq; omega)) hod ns₂ F₂ N₂)
        (fun y s₄ h₄ => ?_) fun _ _ e => e.elim
      obtain ⟨⟨T, kT, rfl, hTn, hTg⟩, h₄, tk₄, rfl, hk₄⟩ := h₄
      have tI : @Ne Nat T I := fun q => by
        rw [show T = I from q] at hTn
        have : h₂.get? I = none := hTn
        rw [show h₂.get? I = _ from st₂] at this; cases this
      have tD : @Ne Nat T (I + 1) := fun q => by
        rw [show T = I + 1 from q] at hTn
        obtain ⟨k, e⟩ := pl₂
        have : h₂.get? (I + 1) = none := hTn
        rw [e] at this; cases this
      have tC : @Ne Nat T (I + 1 + 1) := fun q => by
        rw [show T = I + 1 + 1 from q] at hTn
        obtain ⟨o, _, _, e, _⟩ := ns₂
        have : h₂.get? (I + 1 + 1) = none := hTn
        rw [e] at this; cases this
      have tc : @Ne Nat T (I + 1 + 1 + 1) := fun q => by
        rw [show T = I + 1 + 1 + 1 from q] at hTn
        have : h₂.get? (I + 1 + 1 + 1) = none := hTn
        rw [hoc] at this; cases this
      have pl₄ : h₄.PlainList (I + 1) (Ts.map Value.ref).toArray := by
        obtain ⟨k, e⟩ := pl₂
        exact ⟨k, hk₄ _ _ e⟩
      refine wpAny_list_append_plain (hsz := by rw [sizeLine_eq]; simp; omega) pl₄ fun h₅ hl₅ hs₅ => ?_
      refine ⟨n + 1 - (Ts.length + 1), by omega, h₅, tk₄, some (.int (a₀ + (Ts.length : Int)) t), Ts ++ [T], rfl, ?_, ?_, ?_, ?_, by rw [List.length_append]; exact hl, by rw [List.length_append]; rfl, ?_⟩
      · rw [List.length_append]
        exact W.frame _ _ h₅ st₂ fun b hb o e => hs₅.extBut b o (fun q => by
          have hb : @Eq Nat b I := List.mem_singleton.mp hb
          have q : @Eq Nat b (I + 1) := q
          omega) (hk₄ b o e)
      · rw [List.map_append, List.map_singleton, ← List.push_toArray]; exact hl₅
      · exact ⟨oc, hs₅.extBut _ _ (neN (by omega)) (hk₄ _ _ hoc), hod⟩
      · intro i T' hT'
        by_cases hii : i < Ts.length
        · rw [List.getElem?_append_left hii] at hT'
          obtain ⟨q1, q2, q3, q4, k', e⟩ := hT i T' hT'
          exact ⟨q1, q2, q3, q4, k', hs₅.extBut _ _ q2 (hk₄ _ _ (up _ _ q1 q4 e))⟩
        · rw [List.getElem?_append_right (by omega)] at hT'
          have h0 : i - Ts.length = 0 := by
            cases hz : i - Ts.length with
            | zero => rfl
            | succ z => rw [hz] at hT'; simp at hT'
          rw [h0] at hT'
          cases hT'
          rw [show i = Ts.length by omega]
          exact ⟨tI, tD, tC, tc, kT, hs₅.extBut _ _ tD hTg⟩
      · intro b o h1 h2 h3 e
        exact hs₅.extBut b o h2 (hk₄ b o (up b o h1 h3 (hk b o h1 h2 h3 e)))
    · have eN : Ts.length = n := by omega
      rw [eN] at hst
      refine W.done _ _ _ hst fun h₁ tk₁ hk₁ => ?_
      have ns₁ : h₁.Ns (I + 1 + 1) (fun _ => none) := nsC.at' fun o e => hk₁ _ o (ni _ (by omega)) (hk _ o (by omega) (by omega) (by omega) e)
      refine ⟨_, ns₁, fun h'' hs'' => ?_⟩
      obtain ⟨k, e⟩ := hacc
      refine fin (I + 1) h'' tk₁ k Ts eN (hs''.extBut _ _ (neN (by omega)) (hk₁ _ _ (ni _ (by omega)) e)) (fun i T hTi => ?_) fun b o e => ?_
      · obtain ⟨q1, q2, q3, q4, k', e⟩ := hT i T hTi
        exact ⟨k', hs''.extBut _ _ q3 (hk₁ _ _ (ni _ q1) e)⟩
      · have h : @LT.lt Nat _ b I := hlt b o e
        exact hs''.extBut b o (neN (by omega)) (hk₁ b o (ni _ (by omega)) (hk b o (by omega) (by omega) (by omega) (old b o e)))
  exact codeAny_compStart_list (loop _ rfl) (W.self 0 _ _ _ itI (loop _ rfl))
end
end Mj
end
section
open PySem PySem.W PyProof.Rows PySem.Calls PySem.Spec
namespace Mj
theorem fill_k7 : PySem.Challenge.rw_mj0069_01 = PySem.Challenge.rw_mj0069_01 ∧ hd.heap_39 = hd.heap_39 := by
  k_fill
  exact ⟨rfl, rfl⟩
local macro_rules | `(tactic| walk_at "call builtin:len") => `(tactic| (k_here; k_dflt (refine' len_cells ?l ?F ?z ?_; (case l => k_asm); (case F => k_asm); (case z => omega); k_whole)))
section
variable {prog : Program} {w : World} {A : Around} {E : Value → Shared → Prop} {s : Shared} {h₀ : Heap} {L : Addr} {m : Str → Option Value} {news : List (Addr × Obj)} {Q : Value → Shared → Prop}
theorem zeros_flat (room : Nat) : (List.replicate (↑room : Int).toNat [(0 : Int)]).flatten = List.replicate room 0 := by
  rw [Int.toNat_natCast]
  induction room with
  | zero => rfl
  | succ r ih => rw [List.replicate_succ, List.flatten_cons, ih, List.replicate_succ]; rfl
def IsNum (x : Int) (y : Value) : Prop := ∃ t, y = .int x t
theorem ints_paired {α : Type} {f : α → Int} : ∀ {l : List α} {ys : List Value}, Paired (fun a y => IsNum (f a) y) l ys → IntsAre ys (l.map f)
  | _, _, .nil => .nil
  | _, _, .cons ⟨t, h⟩ r => h ▸ .cons _ _ (ints_paired r)
theorem refs_paired : ∀ {l : List (Cell × Int)} {ys : List Value}, Paired (fun (q : Cell × Int) y => y = .ref q.1.1) l ys → ys = refs (l.map (·.1))
  | _, _, .nil => rfl
  | _, _, .cons h r => by rw [h, refs_paired r]; rfl
theorem reads_tabs {h : Heap} : ∀ {Ts : List Addr} {rs : List (List Cell)}, Ts.length = rs.length → (∀ (i : Nat) T cs, Ts[i]? = some T → rs[i]? = some cs → ∃ k, h.get? T = some (listOf (refs cs).toArray k)) → (∀ cs ∈ rs, ∀ c ∈ cs, CellAt h c) →
    ∃ x, ReadsAll h (Ts.map Value.ref) ((rs.map fun l => l.map (·.2)).map rowD) x
  | [], [], _, _, _ => ⟨[], .nil⟩
  | T :: Ts, cs :: rs, hl, ht, hc => by
    obtain ⟨x, hx⟩ := reads_tabs (Ts := Ts) (rs := rs) (by simpa using hl) (fun i T cs e1 e2 => ht (i + 1) T cs e1 e2) fun cs hcs => hc cs (.tail _ hcs)
    obtain ⟨k, e⟩ := ht 0 T cs rfl rfl
    exact ⟨_, .cons (reads_row ⟨_, e, rfl, k, rfl⟩ (hc cs (.head _))) hx⟩
  | [], _ :: _, h, _, _ => by simp at h
  | _ :: _, [], h, _, _ => by simp at h
theorem item_cells {value slice : Expr} {l : Addr} {cs : List Cell} {k : Int} {u : Tok} {j : Nat} {c : Cell} (hl : h₀.IsList l (refs cs).toArray) (F : Fr h₀ L s.heap m) (hk : k = (j : Int)) (hc : cs[j]? = some c) (hz : cs.length ≤ 1000) (h : Q (.ref c.1) s)
    (hs : subscripted slice false (.ref l) (.int k u) = operate [.ref l, .int k u] (getItem (.ref l) (.int k u))) :
    wpAny (model prog w) A (subscriptTail value slice (.ref l) (.int k u)) Q E s := by
  subst hk
  have hj : j < cs.length := (List.getElem?_eq_some_iff.mp hc).1
  have hL := hl.at fun o e => F.keep l o e
  refine tail_any hL.typeIs slot_list_getitem.lookup (wpAny_getItem_list hL (by omega) (by omega) ?_ h) hs
  rw [Int.toNat_natCast, List.getElem?_toArray, List.getElem?_map, hc]; rfl
theorem item_nums {value slice : Expr} {l : Addr} {vs : List Value} {ns : List Int} {n : Nat} {k : Int} {u : Tok} {j : Nat} {x : Int} (N : News h₀ L s.heap news) (hm : (l, listOf vs.toArray n) ∈ news) (hi : IntsAre vs ns) (hk : k = (j : Int)) (hx : ns[j]? = some x) (hz : ns.length ≤ 1000) (h : ∀ t, Q (.int x t) s)
    (hs : subscripted slice false (.ref l) (.int k u) = operate [.ref l, .int k u] (getItem (.ref l) (.int k u))) :
    wpAny (model prog w) A (subscriptTail value slice (.ref l) (.int k u)) Q E s := by
  subst hk
  have hj : j < ns.length := (List.getElem?_eq_some_iff.mp hx).1
  have hL : s.heap.IsList l vs.toArray := ⟨_, (N _ hm).1, rfl, n, rfl⟩
  obtain ⟨t, ht⟩ := hi.get j x hx
  exact tail_any hL.typeIs slot_list_getitem.lookup (wpAny_getItem_list hL (by omega) (by omega) (by simpa using ht) (h t)) hs
theorem cell_gt {a b : Cell} (ha : CellAt s.heap a) (hb : CellAt s.heap b) (hu : A.units < cLine) (h : Q (.bool (clt b a)) s) : wpAny (model prog w) A (compareOp .Gt (.ref a.1) (.ref b.1)) Q E s := by
  obtain ⟨t, u, n, ea⟩ := ha
  obtain ⟨t', u', n', eb⟩ := hb
  exact pair_gt ea eb hu h
end
local macro_rules | `(tactic| walk_at "subscriptTail") => `(tactic| (k_here; (with_reducible show wpAny _ _ (subscriptTail _ _ (Value.ref _) (Value.int _ _)) _ _ _); k_dflt (first
  | (refine' item_cells ?l ?F ?hk ?hc ?hz ?_ ?hs; (case l => k_asm); (case F => k_asm); (case hk => exact rfl); (case hc => k_asm); (case hz => omega); (case hs => with_unfolding_all rfl); k_whole)
  | (refine' item_nums ?N ?hm ?hi ?hk ?hx ?hz ?_ ?hs; (case N => k_asm); (case hm => k_mem); (case hi => k_asm); (case hk => exact rfl); (case hx => k_asm); (case hz => k_asm); (case hs => with_unfolding_all rfl); k_whole; intro _))))
local macro_rules | `(tactic| walk_at "compareOp Gt ref ref") => `(tactic| (k_here; k_dflt (refine' cell_gt ?ha ?hb ?hu ?_; (case ha => exact cell_fr (by k_asm) (by k_asm)); (case hb => exact cell_fr (by k_asm) (by k_asm)); (case hu => ((try simp only [units_in1, units_deeper, Around.mark_units]); omega)); k_whole)))
section
variable {prog : Program} {w : World} {s : Shared} {b₀ : Heap} {p : Program} {loose : List Str} {mean : ExcName → Option Value} {mg mb : Str → Option Value} {Q : Value → Shared → Prop} {E : Value → Shared → Prop}
  {dp un : Nat} {fr : Option (List Env)} {gd : Option (List Code)}
set_option maxRecDepth 100000 in
set_option maxHeartbeats 8000000 in
theorem due_spec {rw : Addr} {row : List Cell} {nr room : Nat} {tr : Tok}
    (X : (hd.heap_39 w.params).In b₀) (T : Top p loose mean mg mb b₀) (st : b₀.StaysIn s.heap)
    (hr : s.heap.get? rw = some (listOf (refs row).toArray nr)) (hrc : ∀ c ∈ row, CellAt s.heap c) (hrl : row.length ≤ 20) (hrn : 1 ≤ row.length) (hkb : ∀ c ∈ row, Kb c)
    (h1 : 1 ≤ room) (h3 : room ≤ 3) (hd : dp + 70 < recursionLimit) (hu : un + 300 < cLine)
    (hret : ∀ h' tk D x (Mn : Nat), (∃ q ∈ prs room row, q.2 = (Mn : Int)) → (∀ q ∈ prs room row, q.2 ≤ (Mn : Int)) → (∀ b o, s.heap.get? b = some o → h'.get? b = some o) →
      Reads h' (.ref D) (rowsD (((List.range Mn).map fun (i : Nat) => ((prs room row).filter fun q => decide (q.2 = 1 + (i : Int))).map (·.1)).map fun l => l.map (·.2))) x → Q (.ref D) { s with heap := h', toks := tk }) :
    wpAny (model prog w) ⟨none, dp, fr, gd, un⟩ (call (.ref 61) [.ref rw, .int (room : Int) tr]) Q E s := by
  refine' enterC (news := []) X T st (fun _ h => nomatch h) ?ho ?hcd ?room ?hbind ?hkind ?hnd ?_ ?c2 ?c3 ?c4
  case ho => k_is
  case hcd => k_is
  case room => show dp < _; omega
  case hbind => exact BindsTo.of_eq rfl
  case hkind => exact rfl
  case hnd => decide +kernel
  case c2 => rfl
  case c3 => rfl
  case c4 => rfl
  intro g L' h' tk' cells' hg F' N' Y' X' T' l1 hL0
  clear l1
  k_cells Y'
  (try simp only [List.cons_append, List.nil_append] at N')
  have hg : ∀ b o, s.heap.get? b = some o → g.get? b = some o := fun b o e => hg b o e (by simp)
  have hr' := hg _ _ hr
  have hR : g.IsList rw (refs row).toArray := ⟨_, hr', rfl, nr, rfl⟩
  have hrc' : ∀ c ∈ row, CellAt g c := fun c m => (hrc c m).keeps hg
  clear X T st
  try dsimp only
  repeat ((fail_if_success (with_reducible show wpAny _ _ (exec (Stmt.For _ _ _ _ _) _) _ _ _)); (first | walk1 | (dsimp only; walk1)))
  refine wpAny_For ?_ (by intro _; rfl)
  repeat ((fail_if_success (with_reducible show wpAny _ _ (pyIter _) _ _ _)); (first | walk1 | (dsimp only; walk1)))
  rename_i oK o2 oW dK d2 dW rk hp1 lrk hp2 oR F1 N1 dR hp4 tk4 t4 u4 v4 hR4 F4 N4 k4
  refine loop_rangeC (n := row.length) (c := L' + 1 + 1 + 1) (x := Str.ofString "k") (fun i m nx => m (Str.ofString "room") = some (.int (room : Int) tr) ∧
      ∃ vs n, nx = [(rk, listOf vs.toArray n), (L' + 1 + 1, oR), (L' + 1, oW)] ∧ IntsAre vs ((prs room (row.take i)).map (·.2)))
    rfl hR4 (small_one (by omega) (by omega) (by omega) (by omega)) (by rw [rangeSize_nat]; omega) rfl rfl rfl F4
    (news_take (a := L' + 1 + 1 + 1) (by k_mem) N4 (news_take (a := rk) (by k_mem) N4 (news_take (a := L' + 1 + 1) (by k_mem) N4 (news_take (a := L' + 1) (by k_mem) N4 News.nil)))) dK (by k_all) ⟨rfl, [], 0, rfl, by exact .nil⟩ ?_ ?_
  · rintro i t m₁ oc nx I h tk oI hi hLI hcI hnI hnc ⟨hm1, vs, n, rfl, hvs⟩ hoc F₁ N₁
    have F2 := fr_put F₁ (Str.ofString "room") (v := .int (room : Int) tr) hm1
    have d1 : @Ne Nat rk I := hnI (rk, _) (.head _)
    have d2' : @Ne Nat (L' + 1 + 1) I := hnI (L' + 1 + 1, _) (.tail _ (.head _))
    have d3 : @Ne Nat (L' + 1) I := hnI (L' + 1, _) (.tail _ (.tail _ (.head _)))
    have d4 := neN hcI
    clear F₁ hm1 F4 N4 k4 hR4 F1 N1 hnI hnc
    repeat ((fail_if_success (with_reducible show wpAny _ _ (eval (Expr.ListComp _ _ _ _) _) _ _ _)); (first | walk1 | (dsimp only; walk1)))
    rename_i lz hz1 Fz Nz llz D0 hD0 F3 N3 i1 n1 s1 e1 e2 e3 lD
    rw [Int.zero_add] at hoc
    have hci : row[i]? = some row[i] := by simp [hi]
    generalize row[i] = ci at hci
    have hcm : ci ∈ row := List.mem_of_getElem? hci
    have hgi := hrc' ci hcm
    have ets : row.take (i + 1) = row.take i ++ [ci] := by rw [List.take_add_one, hci]; rfl
    have hal : (prs room (row.take i)).length = i := by rw [prs_length, List.length_take]; omega
    have haf : (prs room (row.take i)).map (·.1) = row.take i := prs_fst _ _
    have eS : prs room (row.take (i + 1)) = prs room (row.take i) ++ [(ci, rankOf room (prs room (row.take i)) ci)] := by rw [ets, prs_snoc]
    rw [eS]
    generalize prs room (row.take i) = a at *
    have haj : ∀ (j : Nat) q, a[j]? = some q → row[j]? = some q.1 := fun j q e => by
      have h1 : (a.map (·.1))[j]? = some q.1 := by rw [List.getElem?_map, e]; rfl
      rw [haf, List.getElem?_take] at h1
      split at h1
      · exact h1
      · cases h1
    refine list_comp (fun v => match v with | .int j _ => (match a[j.toNat]? with | some q => decide (ekey ci < ekey q.1) | none => false) | _ => false)
      (fun v y => match v with | .int j _ => (∀ q, a[j.toNat]? = some q → IsNum q.2 y) | _ => False) rfl (by decide) rfl (by decide) rfl ?_ (by intro _; rfl)
    repeat ((fail_if_success (with_reducible show CompGo _ _ _ _ _ _ _ _ _ _ _ _ _ _ _)); (first | walk1 | (dsimp only; walk1)))
    rename_i hC tkC tC uC vC hRC FC NC kC
    refine' comp_range (n := i) _ _ ?hhI ?hRI ?hbI ?hnI ?hFI ?hNI ?tst1 ?el1 ?fin1
    case hhI => exact rfl
    case hnI => omega
    case hRI => exact hRC
    case hbI => first | rfl | omega
    case hFI => exact FC
    case hNI => exact NC
    case tst1 =>
      intro C oC j t' s₃ m₃ hj hLC hnC hC4 hCx F5 N5
      obtain ⟨q, hq⟩ : ∃ q, a[j]? = some q := ⟨a[j], by simp [hal, hj]⟩
      have hrj := haj j q hq
      have hgj := hrc' q.1 (List.mem_of_getElem? hrj)
      k_steps
      · show clt ci q.1 = (match a[((j : Int)).toNat]? with | some q => decide (ekey ci < ekey q.1) | none => false)
        rw [Int.toNat_natCast, hq]
        exact clt_e (hkb _ hcm) (hkb _ (List.mem_of_getElem? hrj))
      · exact ⟨_, _, rfl, fun _ _ e => e⟩
    case el1 =>
      intro C oC j t' s₃ m₃ hj hpj hLC hnC hC4 hCx F5 N5
      obtain ⟨q, hq⟩ : ∃ q, a[j]? = some q := ⟨a[j], by simp [hal, hj]⟩
      have hqs : (a.map (·.2))[j]? = some q.2 := by rw [List.getElem?_map, hq]; rfl
      have hz1000 : (a.map (·.2)).length ≤ 1000 := by rw [List.length_map]; omega
      k_steps
      · rename_i q' hq'
        rw [Int.toNat_natCast, hq] at hq'
        cases hq'
        rw [List.getD_eq_getElem?_getD, Int.toNat_natCast, hqs]
        exact ⟨_, rfl⟩
      · exact ⟨_, _, rfl, fun _ _ e => e⟩
    case fin1 =>
      intro D h5 tk5 ys k5 vs5 hl5 hv5 hp5 F5 N5 k5' hD5
      have hDn : ∀ q ∈ [(D0, W.listOf (List.replicate (↑room : Int).toNat [Value.int 0 tk]).flatten.toArray 0), (lz, W.listOf #[Value.int 0 tk] 0), (I, oI), (L' + 1 + 1 + 1, oc), (rk, W.listOf vs.toArray n), (L' + 1 + 1, oR), (L' + 1, oW)], @Ne Nat D q.1 := fun q hq e => by
        have := (NC q hq).1
        rw [← show D = q.1 from e, hD5] at this; cases this
      have hd1 : @Ne Nat D rk := hDn (rk, _) (.tail _ (.tail _ (.tail _ (.tail _ (.head _)))))
      have hd2 : @Ne Nat D I := hDn (I, _) (.tail _ (.tail _ (.head _)))
      have hd3 : @Ne Nat D D0 := hDn (D0, _) (.head _)
      have hd4 : @Ne Nat D lz := hDn (lz, _) (.tail _ (.head _))
      have hd5 : @Ne Nat D (L' + 1) := hDn (L' + 1, _) (.tail _ (.tail _ (.tail _ (.tail _ (.tail _ (.tail _ (.head _)))))))
      have hd6 : @Ne Nat D (L' + 1 + 1) := hDn (L' + 1 + 1, _) (.tail _ (.tail _ (.tail _ (.tail _ (.tail _ (.head _))))))
      have hd7 : @Ne Nat D (L' + 1 + 1 + 1) := hDn (L' + 1 + 1 + 1, _) (.tail _ (.tail _ (.tail _ (.head _))))
      have hP := comp_pick (l := a) (q := fun q => decide (ekey ci < ekey q.1)) (G := fun q y => IsNum q.2 y) (fun j t q e => by
          show (match a[((j : Int)).toNat]? with | some q => decide (ekey ci < ekey q.1) | none => false) = _
          rw [Int.toNat_natCast, e])
        (fun j t q y e hf => hf q (by rw [Int.toNat_natCast]; exact e)) vs5 ys 0 (fun j v e => by rw [Nat.zero_add]; exact hv5 j v e) (by rw [Nat.zero_add, hl5, hal]) hp5
      rw [List.drop_zero] at hP
      have hI5 := ints_paired hP
      clear FC NC kC hRC hP hp5 hv5 hDn
      have ez : (List.replicate (↑room : Int).toNat [(0 : Int)]).flatten = List.replicate room 0 := zeros_flat room
      rw [ez] at i1
      clear e1 e2 e3 s1 ez
      generalize (List.replicate (↑room : Int).toNat [Value.int 0 tk]).flatten = zs at *
      have hAL : (List.replicate room (0 : Int) ++ (a.filter fun q => decide (ekey ci < ekey q.1)).map (·.2)).length ≤ 23 := by
        rw [List.length_append, List.length_replicate, List.length_map]
        have := List.length_filter_le (fun q : Cell × Int => decide (ekey ci < ekey q.1)) a
        omega
      have hAR : room ≤ (List.replicate room (0 : Int) ++ (a.filter fun q => decide (ekey ci < ekey q.1)).map (·.2)).length := by
        rw [List.length_append, List.length_replicate]; omega
      refine' kmk_add_ints ?kF ?kN ?ka ?kb i1 hI5 ?kh ?kz
      case kF => exact F5
      case kN => exact N5
      case ka => exact ⟨_, (N5 (D0, _) (.tail _ (.head _))).1, rfl, 0, rfl⟩
      case kb => exact ⟨_, (N5 (D, _) (.head _)).1, rfl, k5, rfl⟩
      case kz => rw [sizeLine_eq, ← List.length_append]; exact Nat.le_trans hAL (by omega)
      case kh =>
      intro D2 ws2 h6 F6 N6 l6 hI6
      k_lt l6
      generalize hAe : (List.replicate room (0 : Int) ++ (a.filter fun q => decide (ekey ci < ekey q.1)).map (·.2)) = AL at hAL hAR hI6
      have hAe : aheadL room a ci = AL := hAe
      clear F5 N5
      repeat ((fail_if_success (with_reducible show wpAny _ _ (call (Value.builtin _) _) _ _ _)); (first | walk1 | (dsimp only; walk1)))
      refine' kso_sorted ?oF ?oN ?ol hI6 ?o64 ?oh
      case oF => k_asm
      case oN => k_asm
      case ol => exact ⟨_, (N6 (D2, _) (.head _)).1, rfl, 0, rfl⟩
      case o64 => omega
      case oh =>
      intro D3 ws3 ns3 c3 h7 F7 N7 l7 hI7 hl7 hp7 ho7 _
      k_lt l7
      k_steps
      rename_i h8 t8 h9 F9 N9
      have erk : 1 + ns3.getD (-(↑room : Int) + ↑ns3.length).toNat 0 = rankOf room a ci := by
        unfold rankOf
        rw [hAe, kth_of_sorted hp7 ho7, show (-(↑room : Int) + ↑ns3.length).toNat = ns3.length - room by omega]
      rw [erk] at N9
      refine ⟨h9, _, _, oc, _, [(rk, listOf (vs ++ [Value.int (rankOf room a ci) (h8 + 1 + 1)]).toArray (n + 1)), (L' + 1 + 1, oR), (L' + 1, oW)], rfl, F9,
        news_take (a := I) (by k_mem) N9 (news_take (a := L' + 1 + 1 + 1) (by k_mem) N9 (news_take (a := rk) ?rkm N9 (news_take (a := L' + 1 + 1) (by k_mem) N9 (news_take (a := L' + 1) (by k_mem) N9 News.nil)))),
        hoc, ?n1, ?n2, hcI, ?n3, _, _, rfl, ?n4⟩
      case rkm => rw [← List.push_toArray]; k_mem
      case n1 => rintro p' hp'; rcases List.mem_cons.mp hp' with rfl | hp'; exact d1; rcases List.mem_cons.mp hp' with rfl | hp'; exact d2'; rcases List.mem_singleton.mp hp' with rfl; exact d3
      case n2 => rintro p' hp'; rcases List.mem_cons.mp hp' with rfl | hp'; exact neN (by omega); rcases List.mem_cons.mp hp' with rfl | hp'; exact neN (by omega); rcases List.mem_singleton.mp hp' with rfl; exact neN (by omega)
      case n3 => dsimp only; rw [if_neg (by decide +kernel), if_pos rfl]
      case n4 => rw [List.map_append]; exact hvs.append (.cons _ _ .nil)
  · rintro m₁ oc vk nx h tk ⟨hm1, vs, n, rfl, hvs⟩ hoc hnc F5 N5
    rw [List.take_length] at hvs
    clear F4 N4 k4 hR4 F1 N1 hnc
    repeat ((fail_if_success (with_reducible show wpAny _ _ (eval (Expr.ListComp _ _ _ _) _) _ _ _)); (first | walk1 | (dsimp only; walk1)))
    have hpos : 0 < ((prs room row).map (·.2)).length := by rw [List.length_map, prs_length]; omega
    have hlen : ((prs room row).map (·.2)).length ≤ 1000 := by rw [List.length_map, prs_length]; omega
    refine list_compC rfl rfl (by decide) ?_ (by intro _; rfl)
    repeat ((fail_if_success (with_reducible show CompCellGo _ _ _ _ _ _ _ _ _ _ _)); (first | walk1 | (dsimp only; walk1)))
    rename_i hx M tM kM FM NM hM1 hM2 hC tkC tC uC vC hRC FC NC kC
    obtain ⟨q0, hq0, rfl⟩ := List.mem_map.mp hM1
    have hb := prs_bounds h1 row
    have hb0 := hb q0 hq0
    obtain ⟨Mn, hMn⟩ := Int.eq_ofNat_of_zero_le (show 0 ≤ q0.2 by omega)
    have hprf : (prs room row).map (·.1) = row := prs_fst _ _
    have hM2 : ∀ q ∈ prs room row, q.2 ≤ (Mn : Int) := fun q hq => hMn ▸ hM2 _ (List.mem_map.mpr ⟨q, hq, rfl⟩)
    rw [hMn] at hRC hb0
    generalize hpr : prs room row = pr at *
    have haj : ∀ (j : Nat) q, pr[j]? = some q → row[j]? = some q.1 := fun j q e => by
      have h1 : (pr.map (·.1))[j]? = some q.1 := by rw [List.getElem?_map, e]; rfl
      rwa [hprf] at h1
    have hal : pr.length = row.length := by rw [← hprf, List.length_map]
    refine' comp_cells (n := Mn) (fun i => refs ((pr.filter fun q => decide (q.2 = 1 + (i : Int))).map (·.1))) ?zh ?zr ?zs ?zz ?zn ?zF ?zN ?zcf ?zpc ?zkx ?zkf ?zel ?zfin
    case zh => exact rfl
    case zr => exact hRC
    case zs => exact small_one (by omega) (by omega) (by omega) (by omega)
    case zz => rw [rangeSize_one]; omega
    case zn => omega
    case zF => exact FC
    case zN => exact NC
    case zcf => intro _; rfl
    case zpc => intro _; rfl
    case zkx => intro _ _; rfl
    case zkf => rfl
    case zel =>
      intro C cp op i t s₃ hi hLC hLp hCp hnC hnp hop hns F6 N6
      clear FC NC kC hRC FM NM
      refine list_comp (fun v => match v with | .int j _ => (match pr[j.toNat]? with | some q => decide (q.2 = 1 + (i : Int)) | none => false) | _ => false)
        (fun v y => match v with | .int j _ => (∀ q, pr[j.toNat]? = some q → y = .ref q.1.1) | _ => False) rfl (by decide) rfl (by decide) rfl ?_ (by intro _; rfl)
      repeat ((fail_if_success (with_reducible show CompGo _ _ _ _ _ _ _ _ _ _ _ _ _ _ _)); (first | walk1 | (dsimp only; walk1)))
      rename_i hD tkD tD uD vD hRD FD ND kD
      have lp1 : @LT.lt Nat _ rk cp := hnp (rk, _) (.tail _ (.head _))
      have lp2 : @LT.lt Nat _ (L' + 1 + 1 + 1) cp := hnp (L' + 1 + 1 + 1, _) (.head _)
      have lp3 : @LT.lt Nat _ (L' + 1 + 1) cp := hnp (L' + 1 + 1, _) (.tail _ (.tail _ (.head _)))
      have lp4 : @LT.lt Nat _ (L' + 1) cp := hnp (L' + 1, _) (.tail _ (.tail _ (.tail _ (.head _))))
      clear hnp hnC
      refine' comp_range (n := row.length) _ _ ?yh ?yr ?yb ?yn ?yF ?yN ?ytst ?yel ?yfin
      case yh => exact rfl
      case yr => exact hRD
      case yb => rfl
      case yn => omega
      case yF => exact FD
      case yN => exact ND
      case ytst =>
        intro C' oC j t' s₅ m₅ hj hLC' hnC' hC4 hCx F7 N7
        clear FD ND kD hRD
        obtain ⟨q, hq⟩ : ∃ q, pr[j]? = some q := ⟨pr[j], by simp [hal, hj]⟩
        have hqs : (pr.map (·.2))[j]? = some q.2 := by rw [List.getElem?_map, hq]; rfl
        k_steps
        · show _ = (match pr[((j : Int)).toNat]? with | some q => decide (q.2 = 1 + (i : Int)) | none => false)
          rw [List.getD_eq_getElem?_getD, Int.toNat_natCast, hqs, hq]
          rfl
        · exact ⟨_, _, rfl, fun _ _ e => e⟩
      case yel =>
        intro C' oC j t' s₅ m₅ hj hpj hLC' hnC' hC4 hCx F7 N7
        clear FD ND kD hRD
        obtain ⟨q, hq⟩ : ∃ q, pr[j]? = some q := ⟨pr[j], by simp [hal, hj]⟩
        have hrj := haj j q hq
        k_steps
        · rename_i q' hq'
          rw [Int.toNat_natCast, hq] at hq'
          cases hq'; rfl
        · exact ⟨_, _, rfl, fun _ _ e => e⟩
      case yfin =>
        intro D h5 tk5 ys k5 vs5 hl5 hv5 hp5 F7 N7 k5' hD5
        have hP := comp_pick (l := pr) (q := fun q => decide (q.2 = 1 + (i : Int))) (G := fun q y => y = .ref q.1.1) (fun j t q e => by
            show (match pr[((j : Int)).toNat]? with | some q => decide (q.2 = 1 + (i : Int)) | none => false) = _
            rw [Int.toNat_natCast, e])
          (fun j t q y e hf => hf q (by rw [Int.toNat_natCast]; exact e)) vs5 ys 0 (fun j v e => by rw [Nat.zero_add]; exact hv5 j v e) (by rw [Nat.zero_add, hl5, hal]) hp5
        rw [List.drop_zero] at hP
        have hys := refs_paired hP
        refine ⟨⟨D, k5, rfl, ?_, ?_⟩, h5, tk5, rfl, fun b o e => k5' b o (kD b o e)⟩
        · cases e : s₃.heap.get? D with
          | none => rfl
          | some o =>
            have h1 := kD D o e
            have h2 : hD.get? D = none := hD5
            rw [h1] at h2; cases h2
        · rw [← hys]; exact (N7 (D, _) (.head _)).1
    case zfin =>
      intro D h5 tk5 k5 Ts hTl hD5 hT5 kp5
      have kg : ∀ b o, g.get? b = some o → h5.get? b = some o := fun b o e => kp5 b o (FC.keep b o e)
      obtain ⟨x, hx5⟩ := reads_tabs (h := h5) (Ts := Ts) (rs := (List.range Mn).map fun (i : Nat) => (pr.filter fun q => decide (q.2 = 1 + (i : Int))).map (·.1)) (by rw [List.length_map, List.length_range, hTl])
        (fun i T cs e1 e2 => by
          have hi : i < Mn := by rw [← hTl]; exact (List.getElem?_eq_some_iff.mp e1).1
          rw [List.getElem?_map, List.getElem?_range hi] at e2
          cases e2
          exact hT5 i T e1)
        (fun cs hcs c hc => by
          obtain ⟨i, _, rfl⟩ := List.mem_map.mp hcs
          obtain ⟨q, hq, rfl⟩ := List.mem_map.mp hc
          exact (hrc' q.1 (hprf ▸ List.mem_map.mpr ⟨q, (List.mem_filter.mp hq).1, rfl⟩)).keeps kg)
      refine hret h5 _ D _ Mn ⟨q0, hq0, hMn⟩ hM2 (fun b o e => kg b o (hg b o e)) (.list hD5 rfl rfl (by simpa using hx5))
end
end Mj
end
section
open PySem PySem.W PyProof.Rows PySem.Calls PySem.Spec
namespace Mj
/-! ## a comprehension over a range that makes pairs -/
section
variable {prog : Program} {w : World} {A : Around} {h₀ : Heap} {L : Addr} {m : Str → Option Value} {env : Env} {elt : PySem.Expr} {x : Str} {scope : Scope} {cl : List (Str × Addr)} {s : Shared} {Fin : List Value → List (Addr × Obj) → Prop} {news : List (Addr × Obj)}
def PairEnd (s : Shared) (h : Heap) (q : Int × Int) (y : Value) (s₂ : Shared) : Prop :=
  ∃ T t u k h' tk', y = .ref T ∧ s₂ = { s with heap := h', toks := tk' } ∧ h.get? T = none ∧ h'.get? T = some (tupO q.1 q.2 t u k) ∧ ∀ b o, h.get? b = some o → h'.get? b = some o
theorem comp_pairs {n : Nat} {a : Int} (g : Nat → Int × Int)
    (turn : ∀ (i : Nat) t C oC m₂ h tk (E' : Value → Shared → Prop), i < n → LCg.NsObj oC m₂ → m₂ x = some (.int (a + (i : Int)) t) → Fr h₀ L h m → News h₀ L h ((C, oC) :: news) →
      wpAny (model prog w) A (eval elt (compEnvC scope cl C env)) (PairEnd s h (g i)) E' { s with heap := h, toks := tk })
    (fin : ∀ (cs : List Cell) nw, cs.map (·.2) = (List.range n).map g → (∀ c ∈ cs, ∃ t u k, (c.1, tupO c.2.1 c.2.2 t u k) ∈ nw) → (∀ q ∈ news, q ∈ nw) → Fin (refs cs) nw) :
    LCg.CompRest prog w A h₀ L m env elt x scope cl s (fun _ => True) (fun i v => ∃ t, v = .int (a + (i : Int)) t) Fin n 0 [] news := by
  have key : ∀ (j i : Nat) (cs : List Cell) nw, i + j = n → cs.map (·.2) = (List.range i).map g → (∀ c ∈ cs, ∃ t u k, (c.1, tupO c.2.1 c.2.2 t u k) ∈ nw) → (∀ q ∈ news, q ∈ nw) →
      LCg.CompRest prog w A h₀ L m env elt x scope cl s (fun _ => True) (fun i v => ∃ t, v = .int (a + (i : Int)) t) Fin j i (refs cs) nw := by
    intro j
    induction j with
    | zero =>
      intro i cs nw hi hc hm hn
      have e : i = n := by omega
      subst e
      exact LCg.CompRest.zero (fin cs nw hc hm hn)
    | succ j ih =>
      intro i cs nw hi hc hm hn
      refine LCg.CompRest.succ ?_
      intro v I oI C oC D m₂ h tk E' hv hC hx F N off ne
      obtain ⟨t, rfl⟩ := hv
      have NC : News h₀ L h ((C, oC) :: news) := List.forall_mem_cons.mpr ⟨N _ (.tail _ (.head _)), fun q hq => N _ (.tail _ (.tail _ (.tail _ (hn q hq))))⟩
      refine wpAny_mono (turn i t C oC m₂ h tk E' (by omega) hC hx F NC) (fun y s₂ hq => ?_) fun _ _ e => e
      obtain ⟨T, t', u', k', h', tk', rfl, rfl, hT, hT', hk⟩ := hq
      have nT : ∀ b o, h.get? b = some o → b ≠ T := fun b o e q => by rw [q, hT] at e; cases e
      obtain ⟨oL, _, _, hoL, _⟩ := F.ns
      have hT0 : h₀.get? T = none := by
        cases e : h₀.get? T with
        | none => rfl
        | some o => exact absurd rfl (nT T o (F.keep T o e))
      refine ⟨h', tk', (T, tupO (g i).1 (g i).2 t' u' k') :: nw, rfl, F.kept hk, ?_, ?_, trivial, ?_⟩
      · intro q hq
        rcases List.mem_cons.mp hq with rfl | hq
        · exact N.grown hk _ (.head _)
        · rcases List.mem_cons.mp hq with rfl | hq
          · exact N.grown hk _ (.tail _ (.head _))
          · rcases List.mem_cons.mp hq with rfl | hq
            · exact N.grown hk _ (.tail _ (.tail _ (.head _)))
            · rcases List.mem_cons.mp hq with rfl | hq
              · exact ⟨hT', fun q => nT _ _ hoL q.symm, hT0⟩
              · exact N.grown hk _ (.tail _ (.tail _ (.tail _ hq)))
      · exact ⟨⟨fun q => nT _ _ (N _ (.head _)).1 q.symm, fun q => nT _ _ (N _ (.tail _ (.head _))).1 q.symm, fun q => nT _ _ (N _ (.tail _ (.tail _ (.head _)))).1 q.symm⟩, off⟩
      · have e1 : refs cs ++ [Value.ref T] = refs (cs ++ [(T, g i)]) := by rw [refs, refs, List.map_append]; rfl
        show LCg.CompRest prog w A h₀ L m env elt x scope cl s _ _ Fin j (i + 1) (refs cs ++ [Value.ref T]) _
        rw [e1]
        refine ih (i + 1) _ _ (by omega) ?_ ?_ fun q hq => .tail _ (hn q hq)
        · rw [List.map_append, hc, List.range_succ, List.map_append]; rfl
        · intro c hcm
          rcases List.mem_append.mp hcm with hcm | hcm
          · obtain ⟨t, u, k, e⟩ := hm c hcm
            exact ⟨t, u, k, .tail _ e⟩
          · rw [List.mem_singleton.mp hcm]; exact ⟨t', u', k', .head _⟩
  exact key n 0 [] news (by omega) rfl (fun _ h => nomatch h) fun _ h => h
/-! ## the row -/
/-- the pairs of a list of values -/
def pairsOf (ns : List Int) (i : Nat) : Int × Int := (ns.getD i 0, -(i : Int))
theorem row_at {ns : List Int} {cs : List Cell} (h : cs.map (·.2) = (List.range ns.length).map (pairsOf ns)) {i : Nat} {c : Cell} (hc : cs[i]? = some c) : i < ns.length ∧ c.2 = pairsOf ns i := by
  have e : (cs.map (·.2))[i]? = some c.2 := by rw [List.getElem?_map, hc]; rfl
  rw [h, List.getElem?_map] at e
  by_cases hi : i < ns.length
  · rw [List.getElem?_range hi] at e
    exact ⟨hi, (Option.some.inj e).symm⟩
  · rw [List.getElem?_eq_none (by rw [List.length_range]; omega)] at e; cases e
theorem row_len {ns : List Int} {cs : List Cell} (h : cs.map (·.2) = (List.range ns.length).map (pairsOf ns)) : cs.length = ns.length := by
  have := congrArg List.length h
  simpa using this
theorem row_kb {ns : List Int} {cs : List Cell} (h : cs.map (·.2) = (List.range ns.length).map (pairsOf ns)) (hl : ns.length ≤ 20) (h0 : ∀ x ∈ ns, 0 ≤ x) : ∀ c ∈ cs, Kb c ∧ -100 < ekey c := by
  intro c hc
  obtain ⟨i, hi⟩ := List.getElem?_of_mem hc
  obtain ⟨hl', e⟩ := row_at h hi
  have hx : 0 ≤ ns.getD i 0 := by
    rw [List.getD_eq_getElem?_getD, List.getElem?_eq_getElem hl']
    exact h0 _ (List.getElem_mem hl')
  unfold Kb ekey
  rw [e]
  simp only [pairsOf]
  omega
theorem row_nodup {ns : List Int} {cs : List Cell} (h : cs.map (·.2) = (List.range ns.length).map (pairsOf ns)) (hl : ns.length ≤ 20) : (cs.map ekey).Nodup := by
  have e : cs.map ekey = (List.range ns.length).map fun i => 100 * (pairsOf ns i).1 + (pairsOf ns i).2 := by
    have : cs.map ekey = (cs.map (·.2)).map fun q => 100 * q.1 + q.2 := by rw [List.map_map]; rfl
    rw [this, h, List.map_map]; rfl
  rw [e, List.nodup_iff_pairwise_ne, List.pairwise_map]
  refine List.Pairwise.imp_of_mem ?_ (List.nodup_range (n := ns.length))
  intro a b ha hb hab q
  have ha := List.mem_range.mp ha
  have hb := List.mem_range.mp hb
  simp only [pairsOf] at q
  omega
end
end Mj
end
section
open PySem PySem.W PyProof.Rows PySem.Calls PySem.Spec
namespace Mj
theorem room_of (z : Int) : ∃ r : Nat, z.fmod 3 + 1 = (r : Int) ∧ 1 ≤ r ∧ r ≤ 3 := by
  have h1 := fmod_lo z (n := 3) (by decide)
  have h2 := fmod_hi z (n := 3) (by decide)
  exact ⟨(z.fmod 3 + 1).toNat, by omega, by omega, by omega⟩
theorem vals_of {ws : List Value} {xs : List Int} (h : IntsAre ws (xs.map (fun k => k.fmod 20) ++ [5, 9, 5, 2])) (hx : xs.length ≤ 12) :
    ∃ ns : List Int, IntsAre ws ns ∧ (xs.map (fun k => k.fmod 20)).length + (1 + 1 + 1 + 1) = ns.length ∧ ns.length ≤ 16 ∧ 1 ≤ ns.length ∧ ∀ x ∈ ns, 0 ≤ x := by
  refine ⟨_, h, by simp, by simp; omega, by simp, fun x hm => ?_⟩
  rcases List.mem_append.mp hm with hm | hm
  · obtain ⟨y, _, rfl⟩ := List.mem_map.mp hm
    exact fmod_lo y (n := 20) (by decide)
  · simp at hm; omega
set_option maxRecDepth 100000 in
set_option maxHeartbeats 8000000 in
theorem law_holds : PySem.Challenge.rw_mj0069_01.Holds := hd (by
  k_go0
  all_goals try k_fold
  repeat ((fail_if_success (with_reducible show wpAny _ _ (exec (Stmt.Assign _ (Expr.ListComp _ _ _ _) _) _) _ _ _)); (first | walk1 | (dsimp only; walk1)))
  refine LCg.Assign_ListComp_U (F₀ := by k_asm) (by rfl) (by with_unfolding_all rfl) (by with_unfolding_all rfl) (by decide) (by rfl) (by decide) (by rfl) (by rfl) (by rfl) ?_
  repeat ((fail_if_success (with_reducible show LCg.CompSrc _ _ _ _ _ _ _ _ _ _ _ _ _ _)); (first | walk1 | (dsimp only; walk1)))
  rename_i Dy hy1 tky ony lL hl2 ll1 Dv wv hv3 hIv lv1 hv4 oV FV NV dV hR0 tkR tR uR vR hRng FR NR kR
  rename List Int => script
  obtain ⟨ns, hIn, hnl, hn16, hn1, hn0⟩ := vals_of hIv (by rw [List.length_take]; omega)
  obtain ⟨room, hroom, r1, r3⟩ := room_of (List.take 1 script).sum
  rw [hnl] at hRng
  refine LCg.CompSrc.range (n := ns.length) rfl FR NR hRng (small_one (by omega) (by omega) (by omega) (by omega)) (by rw [rangeSize_nat]; omega) (by rw [sizeLine_eq]; omega) ?_
  intro g'
  refine comp_pairs (pairsOf ns) ?_ ?_
  · intro i t C oC m₂ h tk E' hi hC hx F5 N5
    clear FV NV FR NR kR hIv
    have hxi : ns[i]? = some ns[i] := by simp [hi]
    repeat ((fail_if_success (with_reducible show wpAny _ _ (newTuple _) _ _ _)); (first | walk1 | (dsimp only; walk1)))
    refine newTuple_NK F5 N5 (fun h' F' N' hk => ?_) (by simp [sizeLine_eq])
    have e : pairsOf ns i = (ns.getD (0 + (i : Int)).toNat 0, -(0 + (i : Int))) := by simp [pairsOf]
    have e' := (N' _ (.head _)).1
    rw [e]
    exact ⟨_, _, _, _, h', _, rfl, rfl, Heap.get?_none_of_le (Nat.le_refl _), e', hk⟩
  · intro cs nw hcs hcm hnw D h tk F6 N6 o6
    have hcells : ∀ c ∈ cs, CellAt h c := fun c hc => let ⟨t, u, k, e⟩ := hcm c hc; ⟨t, u, k, (N6 _ (.tail _ e)).1⟩
    have hlen : cs.length = ns.length := row_len hcs
    have hkb := row_kb hcs (by omega) hn0
    have hnd := row_nodup hcs (by omega)
    have n44 : @Ne Nat D 44 := by
      intro q
      have e1 := (N6 _ (.head _)).1
      have e2 := (N6 _ (.tail _ (hnw (44, tabObj #[]) (by k_mem)))).1
      rw [show D = 44 from q] at e1
      have := e1.symm.trans e2
      cases this
    have N7 : News _ _ h [(D, listOf (refs cs).toArray (refs cs).length), (44, tabObj #[])] := List.forall_mem_cons.mpr ⟨N6 _ (.head _), List.forall_mem_cons.mpr ⟨N6 _ (.tail _ (hnw (44, tabObj #[]) (by k_mem))), fun _ q => nomatch q⟩⟩
    have F7 := fr_put (fr_put F6 (Str.ofString "row") (v := .ref D) rfl) (Str.ofString "room") (v := .int (room : Int) _) (by rw [← hroom]; rfl)
    clear FV NV FR NR kR hIv F6 N6 hnw hcm
    dsimp only
    repeat ((fail_if_success (with_reducible show wpAny _ _ (call (Value.ref _) _) _ _ _)); (first | walk1 | (dsimp only; walk1)))
    refine passes_spec (b₀ := ghostOf _ _) (row := cs) (room := room) (by k_asm) (by k_asm) codeHd F7.keep (News.fresh N7 (a := 44) (.tail _ (.head _))) (News.get N7 (.tail _ (.head _))) (.inl rfl) (News.get N7 (.head _)) hcells (by omega) hkb hnd r1 r3 ?pd ?pu ?_
    case pd => ((try simp only [depth_under_make, depth_under_kw, depth_in1, depth_deeper, depth_caller]); decide)
    case pu => ((try simp only [units_in1, units_deeper, Around.mark_units]); decide)
    intro h9 tk9 P ps9 x9 k9 e9 hP
    refine' back_one F7 N7 (Upd.tail n44 (Upd.head (fun _ q => nomatch q))) k9 e9 ?_
    intro F8 N8
    have hcells9 : ∀ c ∈ cs, CellAt h9 c := fun c hc => by
      obtain ⟨t, u, k, e⟩ := hcells c hc
      refine ⟨t, u, k, k9 _ _ (fun q => ?_) e⟩
      rw [q, News.get N7 (.tail _ (.head _))] at e
      cases e
    dsimp only
    repeat ((fail_if_success (with_reducible show wpAny _ _ (call (Value.ref _) _) _ _ _)); (first | walk1 | (dsimp only; walk1)))
    refine due_spec (b₀ := ghostOf _ _) (row := cs) (room := room) (by k_asm) (by k_asm) F8.keep (News.get N8 (.head _)) hcells9 (by omega) (by omega) (fun c hc => (hkb c hc).1) r1 r3 ?dd ?du ?_
    case dd => ((try simp only [depth_under_make, depth_under_kw, depth_in1, depth_deeper, depth_caller]); decide)
    case du => ((try simp only [units_in1, units_deeper, Around.mark_units]); decide)
    intro h10 tk10 D10 x10 Mn hM1 hM2 k10 hD
    rw [passes_due r1 hM1 hM2] at hP
    have hP := Reads.keeps k10 hP
    dsimp only
    have F9 := F8.kept k10
    have N9 := N8.grown k10
    clear F8 N8 F7 N7 k9 k10
    refine eq_rows hP hD ?eu ?_
    case eu => ((try simp only [units_in1, units_deeper, Around.mark_units]); decide)
    k_steps)
end Mj
end
open PySem PySem.W PyProof.Rows
set_option maxRecDepth 100000 in
set_option maxHeartbeats 8000000 in
theorem PySem.Challenge.cw_mj0069_01_holds : PySem.Challenge.rw_mj0069_01.Holds := by
  exact Mj.law_holds
