import PyProof.Rows.All
import Wide.All
import OpenK.AllK
import Wide.FinOn
import PySem.Challenge.RW_qu0043_01
open PySem PySem.W PyProof.Rows PySem.Calls
set_option Elab.async false
set_option compiler.extract_closed false
set_option linter.all false
-- part Hd
namespace Mine
noncomputable def viewP : Program := { PySem.Challenge.pw_qu0043_01 with main := { PySem.Challenge.pw_qu0043_01.main with body := (PySem.Challenge.pw_qu0043_01.main.body.drop 1).take 2 ++ ((PySem.Challenge.pw_qu0043_01.main.body.drop 4).take 7 ++ ((PySem.Challenge.pw_qu0043_01.main.body.drop 12).take 5 ++ PySem.Challenge.pw_qu0043_01.main.body.drop 18)) } }
set_option maxRecDepth 100000 in
theorem ws : OpenLaw.wellSaid PySem.Challenge.rw_qu0043_01 = true := by
  delta OpenLaw.wellSaid
  repeat' (first | (with_reducible refine Bool.and_eq_true_iff.mpr ⟨?_, ?_⟩) | delta OpenRow.wellSaid | delta OpenRow.partSaid | delta looksOpen)
  all_goals decide +kernel
set_option maxRecDepth 100000 in
theorem okp : (chainsOk viewP && opensWell PySem.Challenge.rw_qu0043_01.row.toRowW.prog && (frees PySem.Challenge.rw_qu0043_01.row.toRowW && PySem.Challenge.rw_qu0043_01.row.toRowW.within.isEmpty)) = true := by
  repeat' (with_reducible refine Bool.and_eq_true_iff.mpr ⟨?_, ?_⟩)
  all_goals decide +kernel
local macro_rules | `(tactic| o_law) => `(tactic| refine holds_law ws fun said => ?_)
local macro_rules | `(tactic| o_head $H:term) => `(tactic| (refine holds_open (q := viewP) (loose := []) (Xt := fun s => xlAt viewP [] s && recOk (RowW.records (OpenRow.toRowW (OpenLaw.row PySem.Challenge.rw_qu0043_01))) s) (XP := XL viewP []) (Yf := Hook.obs $H) (Ya := Hook.val $H) (YP := Hook.says $H) (N := 1426) ?hl (Hook.of $H) (Hook.keeps $H) (fun s e => xl_of s (Bool.and_eq_true_iff.mp e).1) XL.keeps (by rfl) (by rfl) (by rfl) (fun s e => recFacts_of (Bool.and_eq_true_iff.mp e).2) (by rfl) (by assumption) okp ⟨rfl, rfl, rfl, rfl, rfl, by decide +kernel⟩ ?hw ?hc; (case hl => (intro w; kernel_rfl))))
set_option maxRecDepth 100000 in
set_option maxHeartbeats 8000000 in
open_top hd for PySem.Challenge.rw_qu0043_01
end Mine
namespace Mine
theorem fill_all : (∀ (w : World) h, (hd.heap_1 w.params).In h → PySem.Challenge.rw_qu0043_01 = PySem.Challenge.rw_qu0043_01) := by w_top off; k_fill; intros; rfl
end Mine
-- part Base
namespace Mine

/-- a part of the heap that stays -/
abbrev Sub (g h : Heap) : Prop := ∀ b o, g.get? b = some o → h.get? b = some o

theorem enter_def {prog : Program} {w : World} {A : Around} {E : Value → Shared → Prop} {s : Shared} {g : Heap} {K : Frag} {p : Program} {loose : List Str} {mean : ExcName → Option Value} {mg mb : Str → Option Value}
    {news : List (Addr × Obj)} {name qual : Str} {params : Arguments} {body : List Stmt} {scope : Scope} {dV kV doc pm cdv ct oc : Value} {an od : Option Addr} {osl : Array (Option Value)} {f : Addr} {args : List Value} {binds : List (Str × Value)}
    {Q : Value → Shared → Prop}
    (hg : Sub g s.heap) (hsz : g.objs.size ≤ s.heap.objs.size) (hN : ∀ p ∈ news, s.heap.get? p.1 = some p.2 ∧ g.get? p.1 = none)
    (X : K.In g) (T : Top p loose mean mg mb g)
    (ho : K.lookup f = some ⟨oc, od, .func (fnOf name qual params body scope dV kV doc pm an cdv ct), osl⟩) (hcd : codeIn K cdv qual = true) (hroom : A.depth < recursionLimit)
    (hbind : BindsTo s (fnOf name qual params body scope dV kV doc pm an cdv ct) ⟨args, []⟩ binds) (hloc : ∀ y ∈ binds, scope.names.lookup y.1 = some .local)
    (h : ∀ L' h₁, Fr g L' h₁ (fun y => binds.reverse.lookup y) → News g L' h₁ news → (∀ p ∈ news, p.1 < L') →
      wpAny (model prog w) (A.deeper (envOf qual scope L' f cdv)) (execs body (envOf qual scope L' f cdv))
        (fun fl s' => Q (match fl with | .ret v => v | _ => .none) s') (fun _ _ => False) { s with heap := h₁, toks := s.toks + binds.length })
    (hco : scope.isCoroutine = false) (hgen : scope.isGenerator = false) (hk : scope.kind = .function)
    (hcell : ∀ x ∈ scope.names, x.2 ≠ .cell) : wpAny (model prog w) A (call (.ref f) args) Q E s := by
  refine wpAny_call (codeAny_call_def (fd := fnOf name qual params body scope dV kV doc pm an cdv ct) (body := body) (binds := binds) hroom (hg _ _ (X _ _ ho)) rfl (T.nolimit.keeps hg) ((codeRec_of X hcd).keeps hg) rfl hbind hcell hloc (fun h₁ hns hk₁ => ?_) hco hgen hk)
  refine wpAny_mono (h s.heap.objs.size h₁ ⟨hns, fun b o e => hk₁ b o (hg b o e), hsz⟩ (fun p hp => ⟨hk₁ _ _ (hN p hp).1, Nat.ne_of_lt (Heap.lt_size (hN p hp).1), (hN p hp).2⟩) fun p hp => Heap.lt_size (hN p hp).1) (fun _ _ x => x) fun _ _ x => x.elim

section
variable {M : Model} {A : Around} {E : Value → Shared → Prop} {s : Shared} {Q : Value → Shared → Prop} {R : Flow → Shared → Prop} {e : Env} {a b i : Value} {t : Tok} {x : Addr}
theorem gW {u l r p} (h : wpAny M A (exec (.While u l r p) e) R E s) : wpAny M A (exec (.While u l r p) e) R E s := h
theorem gF {u v l r p} (h : wpAny M A (exec (.For u v l r p) e) R E s) : wpAny M A (exec (.For u v l r p) e) R E s := h
theorem gA {z u l p q d} (h : wpAny M A (exec (.Assign [z] (.ListComp u l p q) d) e) R E s) : wpAny M A (exec (.Assign [z] (.ListComp u l p q) d) e) R E s := h
theorem gR {l} (h : wpAny M A (call (.ref x) l) Q E s) : wpAny M A (call (.ref x) l) Q E s := h
theorem gS {u l} (h : wpAny M A (execs (u :: l) e) R E s) : wpAny M A (execs (u :: l) e) R E s := h
theorem gL {u l p q} (h : wpAny M A (eval (.ListComp u l p q) e) Q E s) : wpAny M A (eval (.ListComp u l p q) e) Q E s := h
theorem gI (h : wpAny M A (pyIter a) Q E s) : wpAny M A (pyIter a) Q E s := h
theorem gB {o} (_ : o = Operator.RShift ∨ o = .LShift ∨ o = .BitXor ∨ o = .Mult) (h : wpAny M A (binaryOp o a b) Q E s) : wpAny M A (binaryOp o a b) Q E s := h
theorem g1 {n} (h : wpAny M A (call (.builtin n) [.ref x]) Q E s) : wpAny M A (call (.builtin n) [.ref x]) Q E s := h
theorem g2 {n} (h : wpAny M A (call (.builtin n) [.ref x, b]) Q E s) : wpAny M A (call (.builtin n) [.ref x, b]) Q E s := h
theorem gX {u v k} (h : wpAny M A (subscriptTail u v (.ref x) (.int k t)) Q E s) : wpAny M A (subscriptTail u v (.ref x) (.int k t)) Q E s := h
theorem gT {P : Bool → Shared → Prop} (h : wpAny M A (truthy (.ref x)) P E s) : wpAny M A (truthy (.ref x)) P E s := h
theorem gU {u v p} {P : Unit → Shared → Prop} (h : wpAny M A (assign (.Tuple u v p) e (.ref x)) P E s) : wpAny M A (assign (.Tuple u v p) e (.ref x)) P E s := h
end
theorem nmL {prog : Program} {w : World} {A : Around} {E : Value → Shared → Prop} {s : Shared} {h₀ : Heap} {L : Addr} {m : Str → Option Value} {x : Str} {v : Value} {Q : Value → Shared → Prop} {cs : Scope} {cn : Str} {a : Addr} {ccd : Value} {cl : List (Str × Addr)} {pos : Pos}
    (hx : (envX cn cs L a ccd cl).kindOf x = some .local) (hk : cs.kind = .function) (hd : (x == ("__debug__" : Str)) = false) (F : Fr h₀ L s.heap m) (hv : m x = some v) (h : Q v s) : wpAny (model prog w) A (eval (.Name x pos) (envX cn cs L a ccd cl)) Q E s := nameX_L F hv h hk hx hd
theorem room1 {d a b r : Nat} (h : d + a < r) (k : b ≤ a) : d + b < r := Nat.lt_of_le_of_lt (Nat.add_le_add_left k d) h
theorem room2 {d a b c r : Nat} (h : d + a < r) (k : b + c ≤ a) : d + b + c < r := by
  rw [Nat.add_assoc]; exact room1 h k
theorem len_succ {α : Type} {l : List α} {n : Nat} (h : l.length = n + 1) : ∃ a k, l = a :: k ∧ k.length = n := by
  cases l with
  | nil => cases h
  | cons a k => exact ⟨a, k, rfl, Nat.succ.inj h⟩
theorem len3 {α : Type} {l : List α} (h : l.length = 3) : ∃ a b c, l = [a, b, c] := by
  obtain ⟨a, l1, e1, h1⟩ := len_succ h
  obtain ⟨b, l2, e2, h2⟩ := len_succ h1
  obtain ⟨c, l3, e3, h3⟩ := len_succ h2
  exact ⟨a, b, c, e1.trans (congrArg _ (e2.trans (congrArg _ (e3.trans (congrArg _ (List.eq_nil_of_length_eq_zero h3))))))⟩
theorem len8 {α : Type} {l : List α} (h : l.length = 8) : ∃ a b c d e f g i, l = [a, b, c, d, e, f, g, i] := by
  obtain ⟨a, l1, e1, h1⟩ := len_succ h
  obtain ⟨b, l2, e2, h2⟩ := len_succ h1
  obtain ⟨c, l3, e3, h3⟩ := len_succ h2
  obtain ⟨d, l4, e4, h4⟩ := len_succ h3
  obtain ⟨e, l5, e5, h5⟩ := len_succ h4
  obtain ⟨f, g, i, e6⟩ := len3 h5
  exact ⟨a, b, c, d, e, f, g, i, e1.trans (congrArg _ (e2.trans (congrArg _ (e3.trans (congrArg _ (e4.trans (congrArg _ (e5.trans (congrArg _ e6)))))))))⟩
end Mine
-- part Tup
namespace Mine

noncomputable def lexLt : List Int → List Int → Bool
  | [], [] => false
  | [], _ :: _ => true
  | _ :: _, [] => false
  | x :: xs, y :: ys => if x = y then lexLt xs ys else decide (x < y)
noncomputable def lexLe : List Int → List Int → Bool
  | [], _ => true
  | _ :: _, [] => false
  | x :: xs, y :: ys => if x = y then lexLe xs ys else decide (x ≤ y)

open AutoSeq1 (wpAny_loadPart') in
open SeqAt MeetsSeq MeetsSeq2 MeetsSeq3 SeqRoads2 in
theorem tuple_ltAt (l b : Addr) (items items2 : List Value) (n n2 : Nat) (dd dd2 : Option Addr) (sl sl2 : Array (Option Value)) (xs ys : List Int) (hx : IntsAre items xs) (hy : IntsAre items2 ys) :
    Meets (Builtin.«tuple.__lt__» ⟨[.ref l, .ref b], []⟩)
      (fun A R s => s.heap.get? l = some { cls := .type "tuple", dict := dd, data := .seq items.toArray n, slots := sl } ∧ s.heap.get? b = some { cls := .type "tuple", dict := dd2, data := .seq items2.toArray n2, slots := sl2 } ∧
        R (.ok (.ret (.bool (lexLt xs ys)))) s) :=
  .of_wp fun prog w A R s h => by
    obtain ⟨hp, g, d, tk, os⟩ := s; obtain ⟨hl, hb, h⟩ := h
    have f2 := AutoSeq1.sub_tuple_tuple
    wp_walk using wpAny_loadPart' hl, wpAny_loadPart' hb, wpAny_forIn_list _ (fun rest b s' => b.1 = none ∧ s' = ⟨hp, g, d, tk, os⟩ ∧ ∃ vs us xs' ys', rest = vs.zip us ∧ IntsAre vs xs' ∧ IntsAre us ys' ∧ lexLt xs' ys' = lexLt xs ys ∧ (decide (vs.length < us.length) = decide (items.length < items2.length))) _
    case turn =>
      rintro ⟨y, x⟩ rest b s' ⟨hb', rfl, vs, us, xs', ys', hz, h1, h2, he, hlen⟩
      cases h1 with
      | nil => simp at hz
      | @cons n1 t1 vs' ns' h1 =>
        cases h2 with
        | nil => simp at hz
        | @cons n2 t2 us' ms' h2 =>
          simp only [List.zip_cons_cons, List.cons.injEq, Prod.mk.injEq] at hz
          obtain ⟨⟨rfl, rfl⟩, rfl⟩ := hz
          refine wpAny_bind (EqAt.int_int n1 t1 n2 t2 prog w _ _ ?_)
          rw [lexLt] at he
          cases hq : n1 == n2 with
          | true =>
            rw [if_pos (by simpa using hq)] at he
            wp_walk
            exact ⟨rfl, rfl, vs', us', ns', ms', rfl, h1, h2, he, by simpa using hlen⟩
          | false =>
            rw [if_neg (by simpa using hq)] at he
            simp only [Bool.not_false, if_true]
            refine wpAny_bind (wpAny_rule (wpAny_bind (P.lt_int ?_)))
            refine wpAny_bind (wpAny_pure (wpAny_pure ?_))
            dsimp only
            exact wpAny_pure ⟨_, rfl, he ▸ h⟩
    case fin =>
      rintro ⟨b1, b2⟩ s' ⟨hb', rfl, vs, us, xs', ys', hz, h1, h2, he, hlen⟩
      simp only at hb'
      subst hb'
      have e : decide (items.length < items2.length) = lexLt xs ys := by
        rw [← hlen, ← he]
        cases h1 with
        | nil => cases h2 <;> simp [lexLt]
        | cons _ _ _ =>
          cases h2 with
          | nil => simp [lexLt]
          | cons _ _ _ => simp at hz
      refine wpAny_pure ⟨_, rfl, ?_⟩
      simpa [Builtin.Tuple.tupleCompareSizes, e] using h
    case h =>
      exact ⟨rfl, rfl, items, items2, xs, ys, by simp, hx, hy, rfl, rfl⟩

open AutoSeq1 (wpAny_loadPart') in
open SeqAt MeetsSeq MeetsSeq2 MeetsSeq3 SeqRoads2 in
theorem tuple_leAt (l b : Addr) (items items2 : List Value) (n n2 : Nat) (dd dd2 : Option Addr) (sl sl2 : Array (Option Value)) (xs ys : List Int) (hx : IntsAre items xs) (hy : IntsAre items2 ys) :
    Meets (Builtin.«tuple.__le__» ⟨[.ref l, .ref b], []⟩)
      (fun A R s => s.heap.get? l = some { cls := .type "tuple", dict := dd, data := .seq items.toArray n, slots := sl } ∧ s.heap.get? b = some { cls := .type "tuple", dict := dd2, data := .seq items2.toArray n2, slots := sl2 } ∧
        R (.ok (.ret (.bool (lexLe xs ys)))) s) :=
  .of_wp fun prog w A R s h => by
    obtain ⟨hp, g, d, tk, os⟩ := s; obtain ⟨hl, hb, h⟩ := h
    have f2 := AutoSeq1.sub_tuple_tuple
    wp_walk using wpAny_loadPart' hl, wpAny_loadPart' hb, wpAny_forIn_list _ (fun rest b s' => b.1 = none ∧ s' = ⟨hp, g, d, tk, os⟩ ∧ ∃ vs us xs' ys', rest = vs.zip us ∧ IntsAre vs xs' ∧ IntsAre us ys' ∧ lexLe xs' ys' = lexLe xs ys ∧ (decide (vs.length ≤ us.length) = decide (items.length ≤ items2.length))) _
    case turn =>
      rintro ⟨y, x⟩ rest b s' ⟨hb', rfl, vs, us, xs', ys', hz, h1, h2, he, hlen⟩
      cases h1 with
      | nil => simp at hz
      | @cons n1 t1 vs' ns' h1 =>
        cases h2 with
        | nil => simp at hz
        | @cons n2 t2 us' ms' h2 =>
          simp only [List.zip_cons_cons, List.cons.injEq, Prod.mk.injEq] at hz
          obtain ⟨⟨rfl, rfl⟩, rfl⟩ := hz
          refine wpAny_bind (EqAt.int_int n1 t1 n2 t2 prog w _ _ ?_)
          rw [lexLe] at he
          cases hq : n1 == n2 with
          | true =>
            rw [if_pos (by simpa using hq)] at he
            wp_walk
            exact ⟨rfl, rfl, vs', us', ns', ms', rfl, h1, h2, he, by simpa using hlen⟩
          | false =>
            rw [if_neg (by simpa using hq)] at he
            simp only [Bool.not_false, if_true]
            refine wpAny_bind (wpAny_rule (wpAny_bind (P.le_int ?_)))
            refine wpAny_bind (wpAny_pure (wpAny_pure ?_))
            dsimp only
            exact wpAny_pure ⟨_, rfl, he ▸ h⟩
    case fin =>
      rintro ⟨b1, b2⟩ s' ⟨hb', rfl, vs, us, xs', ys', hz, h1, h2, he, hlen⟩
      simp only at hb'
      subst hb'
      have e : decide (items.length ≤ items2.length) = lexLe xs ys := by
        rw [← hlen, ← he]
        cases h1 with
        | nil => cases h2 <;> simp [lexLe]
        | cons _ _ _ =>
          cases h2 with
          | nil => simp [lexLe]
          | cons _ _ _ => simp at hz
      refine wpAny_pure ⟨_, rfl, ?_⟩
      simpa [Builtin.Tuple.tupleCompareSizes, e] using h
    case h =>
      exact ⟨rfl, rfl, items, items2, xs, ys, by simp, hx, hy, rfl, rfl⟩

/-- v is a tuple of these ints -/
noncomputable def TupAt (h : Heap) (v : Value) (xs : List Int) : Prop :=
  ∃ a items n, v = .ref a ∧ h.get? a = some ({ cls := .type "tuple", data := .seq (List.toArray items) n } : Obj) ∧ IntsAre items xs
theorem TupAt.keeps {g h : Heap} {v : Value} {xs : List Int} (hs : Sub g h) : TupAt g v xs → TupAt h v xs
  | ⟨a, items, n, e, ho, hi⟩ => ⟨a, items, n, e, hs _ _ ho, hi⟩

section
variable {prog : Program} {w : World} {A : Around} {E : Value → Shared → Prop} {s : Shared} {u v : Value} {xs ys : List Int} {Q : Value → Shared → Prop}
theorem tup_lt (hu : TupAt s.heap u xs) (hv : TupAt s.heap v ys) (hr : A.units < cLine) (h : Q (.bool (lexLt xs ys)) s) : wpAny (model prog w) A (compareOp .Lt u v) Q E s := by
  obtain ⟨a, its, n, rfl, ha, hi⟩ := hu
  obtain ⟨b, its2, n2, rfl, hb, hi2⟩ := hv
  exact richCompare_meets_room (op := .Lt) ⟨_, ha, rfl⟩ ⟨_, hb, rfl⟩ F.slot_tuple_lt F.entry_tuple_lt (F.args_tuple_lt_2 _ _) (tuple_ltAt a b its its2 n n2 _ _ _ _ xs ys hi hi2)
    ⟨ha, hb, show Value.bool (lexLt xs ys) ≠ Value.notImplemented ∧ Q (.bool (lexLt xs ys)) s from ⟨(fun x => nomatch x), h⟩⟩ hr
theorem tup_le (hu : TupAt s.heap u xs) (hv : TupAt s.heap v ys) (hr : A.units < cLine) (h : Q (.bool (lexLe xs ys)) s) : wpAny (model prog w) A (compareOp .LtE u v) Q E s := by
  obtain ⟨a, its, n, rfl, ha, hi⟩ := hu
  obtain ⟨b, its2, n2, rfl, hb, hi2⟩ := hv
  exact richCompare_meets_room (op := .LtE) ⟨_, ha, rfl⟩ ⟨_, hb, rfl⟩ F.slot_tuple_le F.entry_tuple_le (F.args_tuple_le_2 _ _) (tuple_leAt a b its its2 n n2 _ _ _ _ xs ys hi hi2)
    ⟨ha, hb, show Value.bool (lexLe xs ys) ≠ Value.notImplemented ∧ Q (.bool (lexLe xs ys)) s from ⟨(fun x => nomatch x), h⟩⟩ hr
end
end Mine
-- part Rules
namespace Mine

theorem fill1 : (∀ (w : World) h, (hd.heap_1 w.params).In h → PySem.Challenge.rw_qu0043_01 = PySem.Challenge.rw_qu0043_01) := by k_fill; intros; rfl
noncomputable abbrev PG : Program := PySem.Challenge.rw_qu0043_01.row.prog

theorem IntsAre.uniq {vs : List Value} {xs : List Int} (h : IntsAre vs xs) : ∀ {ys : List Int}, IntsAre vs ys → xs = ys := by
  induction h with
  | nil => intro ys h; cases h; rfl
  | cons _ _ _ ih => intro ys h; cases h with | cons _ _ h => rw [ih h]
theorem TupAt.uniq {h : Heap} {v : Value} {xs ys : List Int} : TupAt h v xs → TupAt h v ys → xs = ys := by
  rintro ⟨a, its, n, rfl, ho, hi⟩ ⟨b, its', n', e', ho', hi'⟩
  cases e'
  rw [ho] at ho'
  cases ho'
  exact IntsAre.uniq hi hi'

open Classical in
noncomputable def rd (g : Heap) (v : Value) : List Int := if h : ∃ xs, TupAt g v xs then h.choose else []
theorem rd_eq {g : Heap} {v : Value} {xs : List Int} (h : TupAt g v xs) : rd g v = xs := by
  have hx : ∃ xs, TupAt g v xs := ⟨xs, h⟩
  unfold rd
  rw [dif_pos hx]
  exact TupAt.uniq hx.choose_spec h
theorem rd_none (g : Heap) : rd g .none = [] := by
  unfold rd
  rw [dif_neg]
  rintro ⟨xs, a, its, n, e, _⟩
  cases e
theorem rd_ok {g : Heap} {v : Value} (h : ∃ xs, TupAt g v xs) : TupAt g v (rd g v) := by
  obtain ⟨xs, h⟩ := h
  rw [rd_eq h]; exact h
noncomputable def ltv (g : Heap) (u v : Value) : Bool := lexLt (rd g u) (rd g v)

section
variable {prog : Program} {w : World} {A : Around} {E : Value → Shared → Prop} {s : Shared} {h₀ : Heap} {L D : Addr} {m : Str → Option Value} {news post : List (Addr × Obj)} {vs : List Value} {n : Nat} {k : Int} {t u : Tok} {v : Value}
theorem getD_some {α : Type} {d : α} : ∀ {xs : List α} {i : Nat}, i < xs.length → xs[i]? = some (xs.getD i d)
  | [], _, h => absurd h (Nat.not_lt_zero _)
  | _ :: _, 0, _ => rfl
  | _ :: xs, i + 1, h => by simpa using getD_some (d := d) (xs := xs) (i := i) (Nat.lt_of_succ_lt_succ h)
theorem getD_mem {α : Type} {d : α} {xs : List α} {i : Nat} (h : i < xs.length) : xs.getD i d ∈ xs := List.mem_of_getElem? (getD_some h)
theorem m_item {value slice : PySem.Expr} {Q : Value → Shared → Prop} (N : News h₀ L s.heap news) (hm : (D, listOf vs.toArray n) ∈ news) (h0 : 0 ≤ k) (h1 : k < vs.length) (hfit : k < 2 ^ 63) (h : Q (vs.getD k.toNat .none) s)
    (hs : subscripted slice false (.ref D) (.int k u) = operate [.ref D, .int k u] (getItem (.ref D) (.int k u)) := by with_unfolding_all rfl) :
    wpAny (model prog w) A (subscriptTail value slice (.ref D) (.int k u)) Q E s :=
  item_litK (PySem.IsL.isList (n := n) (N _ hm).1) h0 hfit (getD_some (by omega)) h hs
theorem m_set {Q : Unit → Shared → Prop} (F : Fr h₀ L s.heap m) (N : News h₀ L s.heap ((D, listOf vs.toArray n) :: post)) (hp : ∀ p ∈ post, p.1 ≠ D) (h0 : 0 ≤ k) (h1 : k < vs.length) (hfit : k < 2 ^ 63)
    (h : ∀ h', Fr h₀ L h' m → News h₀ L h' ((D, listOf (vs.set k.toNat v).toArray n) :: post) → Q () { s with heap := h' }) :
    wpAny (model prog w) A (setItem (.ref D) (.int k t) v) Q E s := by
  have z := N (D, listOf vs.toArray n) (.head _)
  refine ki_setAt z.1 h0 hfit (by rw [List.size_toArray]; exact h1) (h _ (F.change (Heap.SameBut.update ..) z.2.1 z.2.2) (ki_turn (pre := []) _ N (fun _ h => nomatch h) hp ?_ ?_))
  · show vs.toArray.setIfInBounds k.toNat v = (vs.set k.toNat v).toArray
    apply Array.toList_inj.mp
    simp
  · simp
theorem m_ld {x : Str} {pos : Pos} {name : Str} {scope : Scope} {a : Addr} {cd : Value} {Q : Value → Shared → Prop} (F : Fr h₀ L s.heap m) (hv : m x = some v) (h : Q v s)
    (hk : scope.kind = .function := by rfl) (hl : (envOf name scope L a cd).kindOf x = some .local := by rfl)
    (hd : (x == ("__debug__" : Str)) = false := by decide) :
    wpAny (model prog w) A (eval (.Name x pos) (envOf name scope L a cd)) Q E s := ld F hv h hk hl hd
end

/-! heapq, plainly -/
noncomputable def sdLoop {α : Type} (lt : α → α → Bool) (d x : α) (start : Nat) : Nat → List α → Nat → List α
  | 0, xs, pos => xs.set pos x
  | f + 1, xs, pos =>
    if start < pos then
      if lt x (xs.getD ((pos - 1) / 2) d) then sdLoop lt d x start f (xs.set pos (xs.getD ((pos - 1) / 2) d)) ((pos - 1) / 2) else xs.set pos x
    else xs.set pos x
noncomputable def sdown {α : Type} (lt : α → α → Bool) (d : α) (xs : List α) (start pos : Nat) : List α := sdLoop lt d (xs.getD pos d) start pos xs pos
theorem sdLoop_length {α : Type} (lt : α → α → Bool) (d x : α) (start : Nat) : ∀ (f : Nat) (xs : List α) (pos : Nat), (sdLoop lt d x start f xs pos).length = xs.length
  | 0, xs, pos => by simp [sdLoop]
  | f + 1, xs, pos => by
    unfold sdLoop
    split
    · split
      · rw [sdLoop_length lt d x start f]; simp
      · simp
    · simp
theorem sdLoop_fuel {α : Type} (lt : α → α → Bool) (d x : α) (start : Nat) : ∀ (f f' : Nat) (xs : List α) (pos : Nat), pos ≤ f → pos ≤ f' → sdLoop lt d x start f xs pos = sdLoop lt d x start f' xs pos
  | 0, 0, _, _, _, _ => rfl
  | 0, f' + 1, xs, pos, h, _ => by
    unfold sdLoop
    rw [if_neg (by omega)]
  | f + 1, 0, xs, pos, _, h => by
    unfold sdLoop
    rw [if_neg (by omega)]
  | f + 1, f' + 1, xs, pos, h, h' => by
    unfold sdLoop
    split
    · split
      · exact sdLoop_fuel lt d x start f f' _ _ (by omega) (by omega)
      · rfl
    · rfl
end Mine
namespace Mine
section
variable {prog : Program} {w : World} {A : Around} {E : Value → Shared → Prop} {s : Shared} {g : Heap} {L : Addr} {m : Str → Option Value} {u v : Value} {Q : Value → Shared → Prop}
theorem m_tlt {gt : Heap} (F : Fr g L s.heap m) (hgt : Sub gt g) (hu : ∃ xs, TupAt gt u xs) (hv : ∃ xs, TupAt gt v xs) (hr : A.units < cLine) (h : Q (.bool (ltv gt u v)) s) : wpAny (model prog w) A (compareOp .Lt u v) Q E s :=
  tup_lt ((rd_ok hu).keeps fun b o e => F.keep b o (hgt b o e)) ((rd_ok hv).keeps fun b o e => F.keep b o (hgt b o e)) hr h
theorem m_shr1 {k : Nat} {t u : Tok} (hk : 0 < k) (h : ∀ t tk, Q (.int (((k - 1) / 2 : Nat) : Int) t) { s with toks := tk }) : wpAny (model prog w) A (binaryOp .RShift (.int ((k : Int) - 1) t) (.int 1 u)) Q E s := by
  have e : ((k : Int) - 1).fdiv (2 ^ Int.toNat 1) = (((k - 1) / 2 : Nat) : Int) := by
    show ((k : Int) - 1).fdiv (2 ^ 1) = _
    obtain ⟨j, rfl⟩ : ∃ j, k = j + 1 := ⟨k - 1, (Nat.sub_add_cancel hk).symm⟩
    rw [Int.natCast_add, Int.natCast_one, Int.add_sub_cancel, Nat.add_sub_cancel, Int.fdiv_eq_ediv_of_nonneg _ (by decide), show (2 : Int) ^ 1 = 2 by decide]
    exact (Int.natCast_ediv j 2).symm
  exact rshift_int (by decide) (e ▸ h _ _)
end
end Mine
namespace Mine
section
variable {g h h' : Heap} {L H : Addr} {m : Str → Option Value} {post : List (Addr × Obj)} {o o' : Obj}
theorem hide_sub : Sub (h.hide H) h := fun _ _ e => Heap.of_hide e
theorem hide_above (F : Fr g L h m) (N : News g L h ((H, o) :: post)) : Sub g (h.hide H) := fun b x e => by
  refine (Heap.hide_ne h fun q => ?_).trans (F.keep b x e)
  subst q
  rw [(N _ (.head _)).2.2] at e
  cases e
theorem hide_back (F : Fr g L h m) (N : News g L h ((H, o) :: post)) (hp : ∀ p ∈ post, p.1 ≠ H) (hs : Sub (h.hide H) h') (ho : h'.get? H = some o') : Fr g L h' m ∧ News g L h' ((H, o') :: post) := by
  have z := N _ (.head _)
  obtain ⟨oL, a1, a2, hL, a3⟩ := F.ns
  refine ⟨⟨⟨oL, a1, a2, hs _ _ ((Heap.hide_ne h (Ne.symm z.2.1)).trans hL), a3⟩, fun b x e => hs _ _ (hide_above F N b x e), F.above⟩, fun p hq => ?_⟩
  rcases List.mem_cons.mp hq with rfl | hq
  · exact ⟨ho, z.2⟩
  · exact ⟨hs _ _ ((Heap.hide_ne h (hp p hq)).trans (N p (.tail _ hq)).1), (N p (.tail _ hq)).2⟩
end

noncomputable def suLoop {α : Type} (lt : α → α → Bool) (d : α) : Nat → List α → Nat → List α × Nat
  | 0, xs, pos => (xs, pos)
  | f + 1, xs, pos =>
    if 2 * pos + 1 < xs.length then
      if 2 * pos + 2 < xs.length && !lt (xs.getD (2 * pos + 1) d) (xs.getD (2 * pos + 2) d) then
        suLoop lt d f (xs.set pos (xs.getD (2 * pos + 2) d)) (2 * pos + 2)
      else suLoop lt d f (xs.set pos (xs.getD (2 * pos + 1) d)) (2 * pos + 1)
    else (xs, pos)
theorem suLoop_fuel {α : Type} (lt : α → α → Bool) (d : α) : ∀ (f f' : Nat) (xs : List α) (pos : Nat), xs.length ≤ f + pos → xs.length ≤ f' + pos → suLoop lt d f xs pos = suLoop lt d f' xs pos
  | 0, 0, _, _, _, _ => rfl
  | 0, f' + 1, xs, pos, h, _ => by
    unfold suLoop
    rw [if_neg (by omega)]
  | f + 1, 0, xs, pos, _, h => by
    unfold suLoop
    rw [if_neg (by omega)]
  | f + 1, f' + 1, xs, pos, h, h' => by
    unfold suLoop
    split
    · split
      · exact suLoop_fuel lt d f f' _ _ (by rw [List.length_set]; omega) (by rw [List.length_set]; omega)
      · exact suLoop_fuel lt d f f' _ _ (by rw [List.length_set]; omega) (by rw [List.length_set]; omega)
    · rfl
noncomputable def sup {α : Type} (lt : α → α → Bool) (d : α) (xs : List α) (pos : Nat) : List α :=
  let r := suLoop lt d xs.length xs pos
  sdown lt d (r.1.set r.2 (xs.getD pos d)) pos r.2
end Mine
namespace Mine
section
variable {prog : Program} {w : World} {A : Around} {E : Value → Shared → Prop} {s : Shared} {h₀ : Heap} {L D : Addr} {news : List (Addr × Obj)} {vs : List Value} {n : Nat} {Q : Value → Shared → Prop}
theorem m_len (N : News h₀ L s.heap news) (hm : (D, listOf vs.toArray n) ∈ news) (hl : vs.length < 1000000) (h : ∀ t tk, Q (.int vs.length t) { s with toks := tk }) :
    wpAny (model prog w) A (call (.builtin "len") [.ref D]) Q E s := by
  refine len_list (PySem.IsL.isList (n := n) (N _ hm).1) (by rw [List.size_toArray]; omega) ?_
  rw [List.size_toArray]
  exact h _ _
end
end Mine
namespace Mine
theorem int_eq {a b : Int} (t : Tok) (h : a = b) : some (Value.int a t) = some (Value.int b t) := by rw [h]
theorem set_ok {g : Heap} {vs : List Value} {v : Value} {i : Nat} (hT : ∀ v ∈ vs, ∃ xs, TupAt g v xs) (hv : ∃ xs, TupAt g v xs) : ∀ u ∈ vs.set i v, ∃ xs, TupAt g u xs := by
  intro u hu
  rcases List.mem_or_eq_of_mem_set hu with hu | rfl
  · exact hT u hu
  · exact hv
theorem Fr.lt {g h : Heap} {L : Addr} {m : Str → Option Value} (F : Fr g L h m) : L < h.objs.size := by
  obtain ⟨oL, _, _, hL, _⟩ := F.ns
  exact Heap.lt_size hL
end Mine
namespace Mine
section
variable {prog : Program} {w : World} {A : Around} {E : Value → Shared → Prop} {s : Shared} {h₀ : Heap} {L D : Addr} {m : Str → Option Value} {news post : List (Addr × Obj)} {vs : List Value} {n : Nat}
theorem m_truthy {Q : Bool → Shared → Prop} (N : News h₀ L s.heap news) (hm : (D, listOf vs.toArray n) ∈ news) (hl : vs.length < 1000000) (h : ∀ tk, Q (!vs.isEmpty) { s with toks := tk }) :
    wpAny (model prog w) A (truthy (.ref D)) Q E s := by
  refine wpAny_truthy_list (PySem.IsL.isList (n := n) (N _ hm).1) (by rw [List.size_toArray]; omega) ?_
  have e : vs.toArray.isEmpty = vs.isEmpty := by cases vs <;> simp
  rw [e]
  exact h _
theorem m_pop {vs : List Value} {y : Value} {Q : Value → Shared → Prop} (F : Fr h₀ L s.heap m) (N : News h₀ L s.heap ((D, listOf (vs ++ [y]).toArray n) :: post)) (hp : ∀ p ∈ post, p.1 ≠ D) (hl : vs.length < 1000000)
    (h : ∀ h', Fr h₀ L h' m → News h₀ L h' ((D, listOf vs.toArray (n + 1)) :: post) → Q y { s with heap := h' }) : wpAny (model prog w) A (call (.builtin "list.pop") [.ref D]) Q E s :=
  kl_pop F N (by simpa using kpa_last y vs) (.head hp) (by simp [sizeLine_eq]; omega) h
end
end Mine
namespace Mine
theorem Fr.size {g h : Heap} {L : Addr} {m : Str → Option Value} (F : Fr g L h m) : g.objs.size ≤ h.objs.size := Nat.le_trans F.above (Nat.le_of_lt (Fr.lt F))
theorem app_ok {g : Heap} {vs : List Value} {v : Value} (hT : ∀ v ∈ vs, ∃ xs, TupAt g v xs) (hv : ∃ xs, TupAt g v xs) : ∀ u ∈ vs ++ [v], ∃ xs, TupAt g u xs := by
  intro u hu
  rcases List.mem_append.mp hu with hu | hu
  · exact hT u hu
  · cases List.mem_singleton.mp hu
    exact hv
theorem Sub.trans {a b c : Heap} (h : Sub a b) (k : Sub b c) : Sub a c := fun x o e => k x o (h x o e)
end Mine
namespace Mine
section
variable {prog : Program} {w : World} {A : Around} {E : Value → Shared → Prop} {s : Shared} {h₀ : Heap} {L D T : Addr} {o : Obj} {m : Str → Option Value} {post : List (Addr × Obj)} {vs : List Value} {n : Nat} {x : Value} {Q : Value → Shared → Prop}
theorem m_append1 (F : Fr h₀ L s.heap m) (N : News h₀ L s.heap ((D, listOf vs.toArray n) :: post)) (hp : ∀ p ∈ post, p.1 ≠ D) (hl : vs.length < 1000000)
    (h : ∀ h', Fr h₀ L h' m → News h₀ L h' ((D, listOf (vs ++ [x]).toArray (n + 1)) :: post) → Q .none { s with heap := h' }) : wpAny (model prog w) A (call (.builtin "list.append") [.ref D, x]) Q E s := by
  refine append_K F N (Upd.head hp) (fun h' F' N' => h h' F' ?_) (by rw [List.size_toArray, sizeLine_eq]; omega)
  have e : vs.toArray.push x = (vs ++ [x]).toArray := by simp
  rw [e] at N'
  exact N'
theorem m_append2 (F : Fr h₀ L s.heap m) (N : News h₀ L s.heap ((T, o) :: (D, listOf vs.toArray n) :: post)) (hT : T ≠ D) (hp : ∀ p ∈ post, p.1 ≠ D) (hl : vs.length < 1000000)
    (h : ∀ h', Fr h₀ L h' m → News h₀ L h' ((D, listOf (vs ++ [x]).toArray (n + 1)) :: (T, o) :: post) → Q .none { s with heap := h' }) : wpAny (model prog w) A (call (.builtin "list.append") [.ref D, x]) Q E s := by
  refine m_append1 (post := (T, o) :: post) F (fun p hq => ?_) (fun p hq => ?_) hl h
  · rcases List.mem_cons.mp hq with rfl | hq
    · exact N _ (.tail _ (.head _))
    · rcases List.mem_cons.mp hq with rfl | hq
      · exact N _ (.head _)
      · exact N _ (.tail _ (.tail _ hq))
  · rcases List.mem_cons.mp hq with rfl | hq
    · exact hT
    · exact hp p hq
end
end Mine
-- part C1
namespace Mine
theorem fillC1 : (∀ (w : World) h, (hd.heap_1 w.params).In h → PySem.Challenge.rw_qu0043_01 = PySem.Challenge.rw_qu0043_01) := by k_fill; intros; rfl


noncomputable def size (r g b x y : Int) : Int := r * x * x + g * y * y + b * (x - y) * (x - y)

set_option maxRecDepth 100000 in
set_option maxHeartbeats 8000000 in
theorem size_ok {w : World} {A : Around} {E : Value → Shared → Prop} {s : Shared} {g : Heap} {p : Program} {loose : List Str} {mean : ExcName → Option Value} {mg mb : Str → Option Value} {Q : Value → Shared → Prop}
    {P : Addr} {r gr b x y : Int} {t0 t1 t2 tx ty : Tok} 
    (hg : Sub g s.heap) (hsz : g.objs.size ≤ s.heap.objs.size) (X : (hd.heap_1 w.params).In g) (T : Top p loose mean mg mb g) (hroom : A.depth < recursionLimit)
    (hP : g.IsList P #[.int r t0, .int gr t1, .int b t2])
    (hx1 : -1099511627776 < x) (hx2 : x < 1099511627776) (hy1 : -1099511627776 < y) (hy2 : y < 1099511627776)
    (hQ : ∀ h' tk', Sub g h' → ∀ t, Q (.int (size r gr b x y) t) { s with heap := h', toks := tk' }) :
    wpAny (model PG w) A (call (.ref 112) [.ref P, .int x tx, .int y ty]) Q E s := by
  k_dflt refine' enter_def (by assumption) (by assumption) ?hN (by k_asm) (by k_asm) (by k_is) (by k_is) ?k8 (by exact BindsTo.of_eq rfl) (by exact locs rfl) ?_ (by exact rfl) (by exact rfl) (by exact rfl) (by decide)
  case hN => exact List.forall_mem_nil _
  case k8 => exact hroom
  intro L h F N l
  try dsimp only
  k_steps
  exact hQ _ _ F.keep _
end Mine
namespace Mine
theorem size_K {w : World} {A : Around} {E : Value → Shared → Prop} {s : Shared} {h₀ : Heap} {L : Addr} {m : Str → Option Value} {news : List (Addr × Obj)} {p : Program} {loose : List Str} {mean : ExcName → Option Value} {mg mb : Str → Option Value} {Q : Value → Shared → Prop}
    {P : Addr} {r gr b x y : Int} {t0 t1 t2 tx ty : Tok} (F : Fr h₀ L s.heap m) (N : News h₀ L s.heap news) (X : (hd.heap_1 w.params).In h₀) (T : Top p loose mean mg mb h₀) (hroom : A.depth < recursionLimit)
    (hP : s.heap.IsList P #[.int r t0, .int gr t1, .int b t2])
    (hx1 : -1099511627776 < x) (hx2 : x < 1099511627776) (hy1 : -1099511627776 < y) (hy2 : y < 1099511627776)
    (h : ∀ h' t tk, Fr h₀ L h' m → News h₀ L h' news → (∀ p ∈ news, p.1 < h'.objs.size) → Q (.int (size r gr b x y) t) { s with heap := h', toks := tk }) :
    wpAny (model PG w) A (call (.ref 112) [.ref P, .int x tx, .int y ty]) Q E s := by
  refine size_ok (g := s.heap) (fun _ _ e => e) (Nat.le_refl _) (X.keeps F.keep) (T.keeps F.keep) hroom hP hx1 hx2 hy1 hy2 fun h' tk' hs t => ?_
  have N' : News h₀ L h' news := fun p hp => ⟨hs _ _ (N p hp).1, (N p hp).2⟩
  exact h h' t tk' (F.after hs) N' fun p hp => Heap.lt_size (N' p hp).1
end Mine
-- part Rev
set_option maxRecDepth 100000
namespace Mine
theorem sub_ri_reversed : isSubtype (.type "range_iterator") (.type "reversed") = pure false := by rw [isSubtype_type]; kernel_rfl
noncomputable def rangeIterObj (x left step : Int) : Obj := { cls := .type "range_iterator", data := .fields #[rawInt x, rawInt left, rawInt step] }
section
variable {prog : Program} {w : World} {A : Around} {E : Value → Shared → Prop} {s : Shared}
theorem rangeFields_at {r : Addr} {a b c : Int} {t u v : Tok} {Q : Int × Int × Int → Shared → Prop} (hl : IsRange s.heap r a b c t u v) (h : Q (a, b, c) s) : wpAny (model prog w) A (Builtin.Range.rangeFields (.ref r)) Q E s := by
  unfold Builtin.Range.rangeFields
  refine wpAny_bind (wpAny_field hl rfl (x := .int a t) rfl ?_)
  refine wpAny_bind (m := asInt? _) (wpAny_pure ?_)
  refine wpAny_bind (wpAny_field hl rfl (x := .int b u) rfl ?_)
  refine wpAny_bind (m := asInt? _) (wpAny_pure ?_)
  refine wpAny_bind (wpAny_field hl rfl (x := .int c v) rfl ?_)
  refine wpAny_bind (m := asInt? _) (wpAny_pure ?_)
  exact wpAny_pure h
theorem call_range_reversed {r : Addr} {n : Nat} {t u v : Tok} {Q : Value → Shared → Prop} (hl : IsRange s.heap r 0 n 1 t u v) (hn : n < 1000)
    (h : Q (.ref s.heap.objs.size) { s with heap := s.heap.push (rangeIterObj ((n : Int) - 1) n (-1)) }) : wpAny (model prog w) A (call (.builtin "range.__reversed__") [.ref r]) Q E s := by
  have hT : s.TypeIs (.ref r) "range" := ⟨_, hl, rfl⟩
  refine wpAny_call_entry F.slot_range_reversed hT F.entry_range_reversed ?_ (F.args_range_reversed_1 _)
  unfold Builtin.«range.__reversed__»
  refine wpAny_bind (wpAny_of_eq (a := Value.ref r) rfl ?_)
  refine wpAny_bind (rangeFields_at hl ?_)
  have e : Builtin.Range.rangeSize 0 (n : Int) 1 = n := by
    unfold Builtin.Range.rangeSize
    simp only [show (1 : Int) > 0 from by decide, if_true]
    split <;> omega
  have f : ∀ i : Int, -2000 < i → i < 2000 → Builtin.Range.rangeFitsLong i = true := fun i h1 h2 => by
    unfold Builtin.Range.rangeFitsLong
    simp only [Bool.and_eq_true, decide_eq_true_eq]
    omega
  dsimp only
  rw [e, f 0 (by omega) (by omega), f n (by omega) (by omega), f 1 (by omega) (by omega), f (-1) (by omega) (by omega), f (0 - 1) (by omega) (by omega)]
  simp only [Bool.and_self, Bool.not_true, Bool.false_eq_true, if_false, if_true]
  have e2 : (0 : Int) + ((n : Int) - 1) * 1 = (n : Int) - 1 := by omega
  rw [e2]
  exact wpAny_bind (wpAny_newObj_type (wpAny_pure ⟨_, rfl, h⟩))
theorem code_reversed_range {l : Addr} {n : Nat} {t u v : Tok} {Q₁ : Value → Shared → Prop} (hl : IsRange s.heap l 0 n 1 t u v) (hn : n < 1000)
    (h : Q₁ (.ref s.heap.objs.size) { s with heap := s.heap.push (rangeIterObj ((n : Int) - 1) n (-1)) }) :
    codeAny (model prog w) A (.call (.builtin "reversed.__new__") ⟨[.type "reversed", .ref l], []⟩) (wants Q₁ E) s := by
  have hT : s.TypeIs (.ref l) "range" := ⟨_, hl, rfl⟩
  refine codeAny_of_tree ?_
  show wpAny _ A.in1 (do checkBuiltinCall "reversed.__new__" ⟨[.type "reversed", .ref l], []⟩; again (.builtin "reversed.__new__" ⟨[.type "reversed", .ref l], []⟩)) _ _ s
  refine wpAny_bind (wpAny_of_eq (F.newCall_reversed_1 _) (wpAny_pure ⟨plainId_quiet F.plain_reversed_new _, codeAny_builtin F.entry_reversed_new ?_⟩))
  rw [Around.under_plainId F.plain_reversed_new _]
  unfold Builtin.«reversed.__new__»
  refine wpAny_bind (wpAny_of_eq (newClass_reversed _) ?_)
  try dsimp only
  refine wpAny_bind (wpAny_of_eq (a := ()) (by first | rfl | kernel_rfl) ?_)
  refine wpAny_bind (wpAny_of_eq (a := ()) (by first | rfl | kernel_rfl) ?_)
  try dsimp only
  refine wpAny_bind (wpAny_specialOf hT F.slot_range_reversed.lookup ?_)
  try dsimp only
  refine wpAny_bind (wpAny_of_eq (F.slot_range_reversed.bind _) ?_)
  try dsimp only
  first
  | rw [if_neg (show ¬ ((Value.builtin "range.__reversed__" == Value.none) = true) from Bool.false_ne_true)]
  | (show wpAny _ _ (if (Value.builtin "range.__reversed__" == Value.none) = true then _ else _) _ _ _; rw [if_neg (show ¬ ((Value.builtin "range.__reversed__" == Value.none) = true) from Bool.false_ne_true)])
  refine wpAny_bind (wpAny_rule ?_)
  refine wpAny_bind (m := runValue (.call (.builtin "range.__reversed__") ⟨[.ref l], []⟩)) (show wpAny _ _ (call (.builtin "range.__reversed__") [.ref l]) _ _ _ from call_range_reversed hl hn ?_)
  first
  | exact wpAny_pure h
  | exact wpAny_bind (wpAny_pure (wpAny_pure h))
theorem call_reversed_range {l : Addr} {n : Nat} {t u v : Tok} {Q : Value → Shared → Prop} (hl : IsRange s.heap l 0 n 1 t u v) (hn : n < 1000)
    (h : Q (.ref s.heap.objs.size) { s with heap := s.heap.push (rangeIterObj ((n : Int) - 1) n (-1)) }) : wpAny (model prog w) A (call (.type "reversed") [.ref l]) Q E s := by
  refine callType_other (U := "range_iterator") (Q₁ := fun obj s₁ => obj = .ref s.heap.objs.size ∧ s₁ = { s with heap := s.heap.push (rangeIterObj ((n : Int) - 1) n (-1)) }) (by decide +kernel) F.create_reversed ⟨_, _, F.mro_reversed⟩ F.made_reversed sub_ri_reversed (F.typeCall_reversed_1 _) (code_reversed_range hl hn ⟨rfl, rfl⟩) ?_
  rintro obj s₁ ⟨rfl, rfl⟩
  exact ⟨⟨_, Heap.get?_push_size _ rfl, rfl⟩, h⟩
end
end Mine
-- part Loop
set_option maxRecDepth 100000
namespace Mine
section
variable {prog : Program} {w : World} {A : Around} {E : Value → Shared → Prop} {s : Shared} {env : Env} {h₀ : Heap} {x : Str} {body : List Stmt} {Q : Flow → Shared → Prop}

/-- a turn's end -/
noncomputable def TurnEnd (h₀ : Heap) (L I : Addr) (io : Obj) (J : (Str → Option Value) → List (Addr × Obj) → Prop) (s : Shared) (Q : Flow → Shared → Prop) (f : Flow) (s₂ : Shared) : Prop :=
  match f with
  | .ret v => Q (.ret v) s₂
  | .brk => Q .next s₂
  | _ => ∃ h' tk m₂ news₂, s₂ = { s with heap := h', toks := tk } ∧ Fr h₀ L h' m₂ ∧ News h₀ L h' ((I, io) :: news₂) ∧ (∀ p ∈ news₂, p.1 ≠ I) ∧ J m₂ news₂

theorem loop_rangeI {I : Addr} {a c : Int} {n : Nat} {m : Str → Option Value} {news : List (Addr × Obj)} (J : Nat → (Str → Option Value) → List (Addr × Obj) → Prop) (hh : A.handled = none) (hI : IsRangeIter s.heap I a n c) (hIL : I ≠ env.locals) (hI0 : h₀.get? I = none) (hIn : ∀ p ∈ news, p.1 ≠ I)
    (F : Fr h₀ env.locals s.heap m) (N : News h₀ env.locals s.heap news) (hJ : J 0 m news)
    (turn : ∀ i t m₁ news₁ h tk io, i < n → J i m₁ news₁ → (∀ p ∈ news₁, p.1 ≠ I) → Fr h₀ env.locals h (fun y => if y = x then some (.int (a + i * c) t) else m₁ y) → News h₀ env.locals h ((I, io) :: news₁) →
      wpAny (model prog w) A (execs body env) (TurnEnd h₀ env.locals I io (J (i + 1)) s Q) E { s with heap := h, toks := tk })
    (done : ∀ h' tk m' news', Fr h₀ env.locals h' m' → News h₀ env.locals h' news' → J n m' news' → Q .next { s with heap := h', toks := tk }) :
    LoopAtV prog w A h₀ env x body Q E (.ref I) s := by
  have one : ∀ (b : Addr), b ∈ [I] → b = I := fun b hb => List.mem_singleton.mp hb
  refine ⟨I, [I], [I], n, _, _, m, news, J, rfl, Walks.range hh I a c n, fun h => hIL (one _ h).symm, fun b hb => by rw [one b hb]; exact hI0, fun p hp h => hIn p hp (one _ h), ?_, F, N, hJ, ?_, fun h' tk m' news' F' N' _ hJ' => done h' tk m' news' F' N' hJ'⟩
  · have e1 : a + ((0 : Nat) : Int) * c = a := by simp
    have e2 : (n : Int) - ((0 : Nat) : Int) = n := by simp
    show IsRangeIter s.heap I (a + ((0 : Nat) : Int) * c) ((n : Int) - ((0 : Nat) : Int)) c
    rw [e1, e2]; exact hI
  · rintro i v m₁ news₁ s₁ own ⟨h, tk, rfl⟩ hi ⟨t, rfl⟩ hJ₁ hn₁ ho1 ho2 ho3 hst F₁ N₁
    obtain ⟨io, hst'⟩ : ∃ io, h.get? I = some io := ⟨_, hst⟩
    have hin := ho3 I (.head _) hI0 _ hst'
    refine wpAny_mono (turn i t m₁ news₁ h tk io hi hJ₁ (fun p hp q => hn₁ p hp (by rw [q]; exact .head _)) F₁ (fun p hp => ?_)) (fun f s₂ q => ?_) fun _ _ e => e
    · rcases List.mem_cons.mp hp with rfl | hp
      · exact N₁ _ (List.mem_append_left _ hin)
      · exact N₁ _ (List.mem_append_right _ hp)
    · have fin : (∃ h' tk' m₂ news₂, s₂ = { s with heap := h', toks := tk' } ∧ Fr h₀ env.locals h' m₂ ∧ News h₀ env.locals h' ((I, io) :: news₂) ∧ (∀ p ∈ news₂, p.1 ≠ I) ∧ J (i + 1) m₂ news₂) → LoopStepU h₀ env.locals [I] own (J (i + 1)) { s with heap := h, toks := tk } .next s₂ := by
        rintro ⟨h', tk', m₂, news₂, rfl, F₂, N₂, hn₂, hJ₂⟩
        refine ⟨rfl, h', tk', m₂, news₂, rfl, F₂, fun p hp => ?_, fun p hp q => hn₂ p hp (one _ q), hJ₂⟩
        rcases List.mem_append.mp hp with hp | hp
        · have h1 := one _ (ho1 p hp)
          have h2 : h.get? p.1 = some p.2 := ho2 p hp
          have h3 : p = (I, io) := Prod.ext h1 (Option.some.inj (h2.symm.trans (by rw [h1]; exact hst')))
          rw [h3]; exact N₂ _ (.head _)
        · exact N₂ _ (.tail _ hp)
      cases f with
      | ret v => exact q
      | brk => exact q
      | next => exact .next (fin q)
      | cont => exact .cont (fin q)
end
end Mine
namespace Mine
theorem News.swap {h₀ h : Heap} {L : Addr} {a b : Addr × Obj} {l : List (Addr × Obj)} (N : News h₀ L h (a :: b :: l)) : News h₀ L h (b :: a :: l) := fun p hp => by
  rcases List.mem_cons.mp hp with rfl | hp
  · exact N _ (.tail _ (.head _))
  · rcases List.mem_cons.mp hp with rfl | hp
    · exact N _ (.head _)
    · exact N _ (.tail _ (.tail _ hp))
end Mine
-- part Lits
set_option maxRecDepth 100000
namespace Mine
inductive All2 {α β : Type} (R : α → β → Prop) : List α → List β → Prop
  | nil : All2 R [] []
  | cons {a : α} {b : β} {as : List α} {bs : List β} : R a b → All2 R as bs → All2 R (a :: as) (b :: bs)
section
variable {α β : Type} {R S : α → β → Prop} {as : List α} {bs : List β}
theorem All2.mono (h : ∀ a b, R a b → S a b) {as : List α} {bs : List β} (t : All2 R as bs) : All2 S as bs := by
  induction t with
  | nil => exact .nil
  | cons r _ ih => exact .cons (h _ _ r) ih
theorem All2.length {as : List α} {bs : List β} (t : All2 R as bs) : as.length = bs.length := by
  induction t with
  | nil => rfl
  | cons _ _ ih => exact congrArg Nat.succ ih
theorem All2.append {as cs : List α} {bs ds : List β} (t : All2 R as bs) (h : All2 R cs ds) : All2 R (as ++ cs) (bs ++ ds) := by
  induction t with
  | nil => exact h
  | cons r _ ih => exact .cons r ih
theorem All2.left {as : List α} {bs : List β} (t : All2 R as bs) : ∀ a ∈ as, ∃ b, b ∈ bs ∧ R a b := by
  induction t with
  | nil => exact fun _ h => nomatch h
  | cons r _ ih =>
    intro a h
    rcases List.mem_cons.mp h with rfl | h
    · exact ⟨_, .head _, r⟩
    · obtain ⟨b, hb, hr⟩ := ih a h
      exact ⟨b, .tail _ hb, hr⟩
end
/-- the ledger bears the tuple of these ints -/
noncomputable def TupN (tups : List (Addr × Obj)) (v : Value) (xs : List Int) : Prop :=
  ∃ a items n, v = .ref a ∧ (a, ({ cls := .type "tuple", data := .seq (List.toArray items) n } : Obj)) ∈ tups ∧ IntsAre items xs
theorem TupN.mono {t u : List (Addr × Obj)} (h : ∀ p ∈ t, p ∈ u) {v : Value} {xs : List Int} : TupN t v xs → TupN u v xs
  | ⟨a, its, n, e, hm, hi⟩ => ⟨a, its, n, e, h _ hm, hi⟩
theorem TupN.at {t : List (Addr × Obj)} {h : Heap} {v : Value} {xs : List Int} (H : ∀ p ∈ t, h.get? p.1 = some p.2) : TupN t v xs → TupAt h v xs
  | ⟨a, its, n, e, hm, hi⟩ => ⟨a, its, n, e, H _ hm, hi⟩

theorem int_cons {vs : List Value} {x : Int} {xs : List Int} (h : IntsAre vs (x :: xs)) : ∃ t vs', vs = .int x t :: vs' ∧ IntsAre vs' xs := by
  cases h with | cons _ t r => exact ⟨t, _, rfl, r⟩
theorem int_nil {vs : List Value} (h : IntsAre vs []) : vs = [] := by cases h; rfl
theorem int3 {ws : List Value} {a b c : Int} (h : IntsAre ws [a, b, c]) : ∃ t u v, ws = [.int a t, .int b u, .int c v] := by
  obtain ⟨t, w1, e1, h1⟩ := int_cons h
  obtain ⟨u, w2, e2, h2⟩ := int_cons h1
  obtain ⟨v, w3, e3, h3⟩ := int_cons h2
  exact ⟨t, u, v, e1.trans (congrArg _ (e2.trans (congrArg _ (e3.trans (congrArg _ (int_nil h3))))))⟩
theorem int4 {ws : List Value} {a b c d : Int} (h : IntsAre ws [a, b, c, d]) : ∃ t u v x, ws = [.int a t, .int b u, .int c v, .int d x] := by
  obtain ⟨t, w1, e1, h1⟩ := int_cons h
  obtain ⟨u, v, x, e2⟩ := int3 h1
  exact ⟨t, u, v, x, e1.trans (congrArg _ e2)⟩
theorem int5 {ws : List Value} {a b c d f : Int} (h : IntsAre ws [a, b, c, d, f]) : ∃ t u v x y, ws = [.int a t, .int b u, .int c v, .int d x, .int f y] := by
  obtain ⟨t, w1, e1, h1⟩ := int_cons h
  obtain ⟨u, v, x, y, e2⟩ := int4 h1
  exact ⟨t, u, v, x, y, e1.trans (congrArg _ e2)⟩
theorem all2_cons {α β : Type} {R : α → β → Prop} {as : List α} {b : β} {bs : List β} (h : All2 R as (b :: bs)) : ∃ a k, as = a :: k ∧ R a b ∧ All2 R k bs := by
  cases h with | cons r t => exact ⟨_, _, rfl, r, t⟩
theorem all2_nil {α β : Type} {R : α → β → Prop} {as : List α} (h : All2 R as []) : as = [] := by cases h; rfl
inductive LitI : PySem.Expr → Int → Prop
  | pos {i k p} : LitI (.Constant (.int i) k p) i
  | neg {i k p q} : LitI (.UnaryOp .USub (.Constant (.int i) k p) q) (-i)
inductive LitT : PySem.Expr → List Int → Prop
  | mk {es is c p} : All2 LitI es is → LitT (.Tuple es c p) is
section
variable {prog : Program} {w : World} {A : Around} {E : Value → Shared → Prop} {env : Env} {h₀ : Heap} {L : Addr} {m : Str → Option Value}
theorem eval_litI {e : PySem.Expr} {i : Int} {s : Shared} {Q : Value → Shared → Prop} (he : LitI e i) (h : ∀ t tk, Q (.int i t) { s with toks := tk }) : wpAny (model prog w) A (eval e env) Q E s := by
  cases he with
  | pos => exact wpAny_Constant_int (h _ _)
  | neg => exact UnaryOp_ (wpAny_Constant_int (P.neg_int (h _ _)))
theorem starEach_litI {e : PySem.Expr} {i : Int} (he : LitI e i) (rest : List PySem.Expr) : starEach (e :: rest) env = (false, eval e env) :: starEach rest env := by
  cases he <;> rfl
theorem spliced_litIs {pos : Pos} {elts : List PySem.Expr} {is : List Int} (hl : All2 LitI elts is) : ∀ (s : Shared) (Q : List Value → Shared → Prop),
    (∀ vs tk, IntsAre vs is → Q vs { s with toks := tk }) → wpAny (model prog w) A (spliced (backTo pos (starEach elts env))) Q E s := by
  induction hl with
  | nil => intro s Q h; exact args_nil (h [] s.toks .nil)
  | cons hi _ ih =>
    intro s Q h
    refine args_cons (eval_litI hi fun t tk => ?_) (starEach_litI hi _)
    exact ih _ _ fun vs tk' hvs => h (_ :: vs) tk' (.cons _ t hvs)
theorem starEach_litT {e : PySem.Expr} {i : List Int} (he : LitT e i) (rest : List PySem.Expr) : starEach (e :: rest) env = (false, eval e env) :: starEach rest env := by
  cases he; rfl
theorem eval_litT {e : PySem.Expr} {is : List Int} {s : Shared} {news : List (Addr × Obj)} {Q : Value → Shared → Prop} (he : LitT e is) (hn : is.length < 100) (F : Fr h₀ L s.heap m) (N : News h₀ L s.heap news)
    (h : ∀ a items h' tk, Fr h₀ L h' m → News h₀ L h' ((a, { cls := .type "tuple", data := .seq (List.toArray items) }) :: news) → IntsAre items is → s.heap.objs.size ≤ a → s.heap.objs.size ≤ h'.objs.size → Q (.ref a) { s with heap := h', toks := tk }) : wpAny (model prog w) A (eval e env) Q E s := by
  cases he with
  | mk he =>
    refine Tuple_ (spliced_litIs he s _ fun vs tk hvs => ?_)
    have hl : vs.length = is.length := hvs.length
    refine wpAny_newObj_type ?_ (by show vs.toArray.size ≤ sizeLine; rw [List.size_toArray, hl, sizeLine_eq]; exact Nat.le_of_lt (Nat.lt_trans hn (by decide)))
    exact h _ vs _ _ (F.push _) (N.push F _) hvs (Nat.le_refl _) (by rw [Heap.size_push]; exact Nat.le_succ _)
theorem spliced_litTs {pos : Pos} {elts : List PySem.Expr} {iss : List (List Int)} (hl : All2 LitT elts iss) : ∀ (s : Shared) (news : List (Addr × Obj)) (Q : List Value → Shared → Prop), (∀ is ∈ iss, is.length < 100) → Fr h₀ L s.heap m → News h₀ L s.heap news →
    (∀ vs tups h' tk, Fr h₀ L h' m → News h₀ L h' (tups ++ news) → All2 (TupN tups) vs iss → (∀ p ∈ tups, s.heap.objs.size ≤ p.1) → Q vs { s with heap := h', toks := tk }) → wpAny (model prog w) A (spliced (backTo pos (starEach elts env))) Q E s := by
  induction hl with
  | nil => intro s news Q _ F N h; exact args_nil (h [] [] s.heap s.toks F N .nil fun _ h => nomatch h)
  | cons hi _ ih =>
    intro s news Q hn F N h
    refine args_cons (eval_litT hi (hn _ (.head _)) F N fun a items h₁ tk F₁ N₁ hit ha hsz => ?_) (starEach_litT hi _)
    refine ih _ _ _ (fun x hx => hn x (.tail _ hx)) F₁ N₁ fun vs tups h₂ tk₂ F₂ N₂ hA ht => ?_
    refine h (_ :: vs) (tups ++ [(a, ({ cls := .type "tuple", data := .seq (List.toArray items) } : Obj))]) h₂ tk₂ F₂ ?_ (.cons ⟨a, items, 0, rfl, List.mem_append_right _ (.head _), hit⟩ (hA.mono fun v xs => TupN.mono fun p hp => List.mem_append_left _ hp)) ?_
    · rw [List.append_assoc]; exact N₂
    · intro p hp
      rcases List.mem_append.mp hp with hp | hp
      · exact Nat.le_trans hsz (ht p hp)
      · rw [List.mem_singleton.mp hp]; exact ha
/-- a written list of written tuples -/
theorem eval_litTs {elts : List PySem.Expr} {pos : Pos} {iss : List (List Int)} {s : Shared} {news : List (Addr × Obj)} {Q : Value → Shared → Prop} (hl : All2 LitT elts iss) (hn : ∀ is ∈ iss, is.length < 100) (hm : iss.length < 100) (F : Fr h₀ L s.heap m) (N : News h₀ L s.heap news)
    (h : ∀ l vs tups h' tk, Fr h₀ L h' m → News h₀ L h' ((l, listOf (List.toArray vs) 0) :: (tups ++ news)) → All2 (TupN tups) vs iss → (∀ p ∈ tups, s.heap.objs.size ≤ p.1) → (∀ p ∈ tups ++ news, p.1 < l) → Q (.ref l) { s with heap := h', toks := tk }) :
    wpAny (model prog w) A (eval (.List elts pos) env) Q E s := by
  refine List_ (spliced_litTs hl s news _ hn F N fun vs tups h₁ tk F₁ N₁ hA ht => ?_)
  have hv : vs.length = iss.length := hA.length
  refine newList_K F₁ N₁ (fun l h₂ F₂ N₂ hlt => h l vs tups h₂ tk F₂ N₂ hA ht hlt) (by rw [hv, sizeLine_eq]; omega)
end
end Mine
-- part Loop2
set_option maxRecDepth 100000
namespace Mine
section
variable {prog : Program} {w : World} {A : Around} {E : Value → Shared → Prop} {s : Shared} {env : Env} {h₀ : Heap} {target : PySem.Expr} {body : List Stmt} {Q : Flow → Shared → Prop}
noncomputable def TurnEnd2 (h₀ : Heap) (L I : Addr) (io : Obj) (lp : Addr × Obj) (J : (Str → Option Value) → List (Addr × Obj) → Prop) (s : Shared) (Q : Flow → Shared → Prop) (f : Flow) (s₂ : Shared) : Prop :=
  match f with
  | .ret v => Q (.ret v) s₂
  | .brk => Q .next s₂
  | _ => ∃ h' tk m₂ news₂, s₂ = { s with heap := h', toks := tk } ∧ Fr h₀ L h' m₂ ∧ News h₀ L h' ((I, io) :: lp :: news₂) ∧ (∀ p ∈ news₂, p.1 ≠ I ∧ p.1 ≠ lp.1) ∧ J m₂ news₂

theorem loop_listT {ax : Addr} {vs : List Value} {n : Nat} {m : Str → Option Value} {news : List (Addr × Obj)} (J : Nat → (Str → Option Value) → List (Addr × Obj) → Prop) (hh : A.handled = none)
    (F : Fr h₀ env.locals s.heap m) (N : News h₀ env.locals s.heap ((ax, listOf vs.toArray n) :: news)) (hax : ∀ p ∈ news, p.1 ≠ ax) (hJ : J 0 m news)
    (turn : ∀ i v I io m₁ news₁ h tk, vs[i]? = some v → J i m₁ news₁ → I ≠ ax → (∀ p ∈ news₁, p.1 ≠ I ∧ p.1 ≠ ax) → Fr h₀ env.locals h m₁ → News h₀ env.locals h ((I, io) :: (ax, listOf vs.toArray n) :: news₁) →
      wpAny (model prog w) A (assign target env v) (fun _ s₃ => wpAny (model prog w) A (execs body env) (TurnEnd2 h₀ env.locals I io (ax, listOf vs.toArray n) (J (i + 1)) s Q) E s₃) E { s with heap := h, toks := tk })
    (done : ∀ h' tk m' news', Fr h₀ env.locals h' m' → News h₀ env.locals h' ((ax, listOf vs.toArray n) :: news') → (∀ p ∈ news', p.1 ≠ ax) → J vs.length m' news' → Q .next { s with heap := h', toks := tk }) :
    wpAny (model prog w) A (pyIter (.ref ax)) (fun it s₂ => TurnsAt prog w A h₀ env target body Q E it s₂) E s := by
  have hz := N _ (.head _)
  have hl : s.heap.IsList ax vs.toArray := ⟨_, hz.1, rfl, n, rfl⟩
  have hlt : ax < s.heap.objs.size := Heap.lt_size hz.1
  have hne : ax ≠ s.heap.objs.size := Nat.ne_of_lt hlt
  refine wpAny_pyIter_list hl ?_
  generalize hI : s.heap.objs.size = I at *
  have hI0 : h₀.get? I = none := by rw [← hI]; exact next_is_new F
  have hIL : env.locals ≠ I := by rw [← hI]; exact Nat.ne_of_lt F.ns.lt
  have two : ∀ (b : Addr), b ∈ [I, ax] → b = I ∨ b = ax := fun b hb => by simpa using hb
  have one : ∀ (b : Addr), b ∈ [I] → b = I := fun b hb => List.mem_singleton.mp hb
  have hnI : ∀ p ∈ (ax, listOf vs.toArray n) :: news, p.1 ≠ I := fun p hp q => absurd (Heap.lt_size (N p hp).1) (by rw [q, hI]; exact Nat.lt_irrefl _)
  let J' : Nat → (Str → Option Value) → List (Addr × Obj) → Prop := fun i m₁ news' => ∃ rest, news' = (ax, listOf vs.toArray n) :: rest ∧ (∀ p ∈ rest, p.1 ≠ ax) ∧ J i m₁ rest
  have W := Walks.list (prog := prog) (w := w) hh I ax hne vs.toArray
  have hlen : vs.toArray.size = vs.length := by simp
  rw [hlen] at W
  refine ⟨I, [I, ax], [I], vs.length, _, _, _, m, (ax, listOf vs.toArray n) :: news, J', rfl, KTurns.ofWalks W fun i v s Q E st q => letGo_listiter st.1 q, ?_, ?_, ?_, ?_, F.push _, (fun p hp => ⟨Heap.get?_push_of_some _ (N p hp).1, (N p hp).2⟩), ⟨news, rfl, hax, hJ⟩, ?_, ?_⟩
  · intro h
    rcases two _ h with e | e
    · exact hIL e
    · exact hz.2.1 e.symm
  · intro b hb; rw [one b hb]; exact hI0
  · intro p hp h; exact hnI p hp (one _ h)
  · exact ⟨⟨_, by rw [← hI]; exact Heap.get?_push_size _ rfl, rfl, rfl⟩, hl.at fun o e => Heap.get?_push_of_some _ e⟩
  · rintro i v m₁ news' h₁ tk₁ own hi hP ⟨rest, rfl, hr, hJ₁⟩ hn₁ ho1 ho2 ho3 hst F₁ N₁
    obtain ⟨io, hio, _⟩ := hst.1
    have hin := ho3 I (.head _) hI0 _ hio
    have hax₁ : h₁.get? ax = some (listOf vs.toArray n) := (N₁ _ (List.mem_append_right _ (.head _))).1
    have hv : vs[i]? = some v := by
      have hP' : vs.toArray[i]? = some v := hP
      simpa using hP'
    refine wpAny_mono (turn i v I io m₁ rest h₁ tk₁ hv hJ₁ (Ne.symm hne) (fun p hp => ⟨fun q => hn₁ p (.tail _ hp) (by rw [q]; exact .head _), hr p hp⟩) F₁ (fun p hp => ?_)) (fun _ s₃ q₃ => wpAny_mono q₃ (fun f s₂ q => ?_) fun _ _ e => e) fun _ _ e => e
    · rcases List.mem_cons.mp hp with rfl | hp
      · exact N₁ _ (List.mem_append_left _ hin)
      · exact N₁ _ (List.mem_append_right _ hp)
    · have fin : (∃ h' tk' m₂ news₂, s₂ = { s with heap := h', toks := tk' } ∧ Fr h₀ env.locals h' m₂ ∧ News h₀ env.locals h' ((I, io) :: (ax, listOf vs.toArray n) :: news₂) ∧ (∀ p ∈ news₂, p.1 ≠ I ∧ p.1 ≠ ax) ∧ J (i + 1) m₂ news₂) → LoopStepU h₀ env.locals [I] own (J' (i + 1)) { s with heap := h₁, toks := tk₁ } .next s₂ := by
        rintro ⟨h', tk', m₂, news₂, rfl, F₂, N₂, hn₂, hJ₂⟩
        refine ⟨rfl, h', tk', m₂, (ax, listOf vs.toArray n) :: news₂, rfl, F₂, fun p hp => ?_, fun p hp q => ?_, news₂, rfl, fun p hp => (hn₂ p hp).2, hJ₂⟩
        · rcases List.mem_append.mp hp with hp | hp
          · have h2 : h₁.get? p.1 = some p.2 := ho2 p hp
            rcases two _ (ho1 p hp) with h1 | h1
            · have h3 : p = (I, io) := Prod.ext h1 (Option.some.inj (h2.symm.trans (by rw [h1]; exact hio)))
              rw [h3]; exact N₂ _ (.head _)
            · have h3 : p = (ax, listOf vs.toArray n) := Prod.ext h1 (Option.some.inj (h2.symm.trans (by rw [h1]; exact hax₁)))
              rw [h3]; exact N₂ _ (.tail _ (.head _))
          · exact N₂ _ (.tail _ hp)
        · have q' := one _ q
          rcases List.mem_cons.mp hp with rfl | hp
          · exact hne q'
          · exact (hn₂ p hp).1 q'
      cases f with
      | ret v => exact q
      | brk => exact q
      | next => exact .next (fin q)
      | cont => exact .cont (fin q)
  · rintro h' tk m' news' F' N' _ ⟨rest, rfl, hr, hJ'⟩
    exact done h' tk m' rest F' N' hr hJ'
end
end Mine
namespace Mine
theorem News.sub {h₀ h : Heap} {L : Addr} {l l' : List (Addr × Obj)} (N : News h₀ L h l) (hs : ∀ p ∈ l', p ∈ l) : News h₀ L h l' := fun p hp => N p (hs p hp)
theorem All2.get {α β : Type} {R : α → β → Prop} {as : List α} {bs : List β} (h : All2 R as bs) : ∀ {i : Nat} {a : α}, as[i]? = some a → ∃ b, bs[i]? = some b ∧ R a b := by
  induction h with
  | nil => intro i a h; cases h
  | cons r _ ih =>
    intro i a h
    cases i with
    | zero => cases h; exact ⟨_, rfl, r⟩
    | succ i => exact ih (i := i) h
end Mine
namespace Mine
theorem fold_list (elts : List PySem.Expr) (pos : Pos) (env : Env) : ∀ x, foldedSetIterable (.List elts pos) env x = pure x := fun _ => rfl
end Mine
namespace Mine
theorem allLt_to {d : Nat} : ∀ {l : List (Addr × Obj)}, AllLt d l → ∀ p ∈ l, p.1 < d
  | [], _, _, hp => nomatch hp
  | _ :: _, h, p, hp => by
    rcases List.mem_cons.mp hp with rfl | hp
    · exact h.1
    · exact allLt_to h.2 p hp
end Mine
namespace Mine
section
variable {h₀ h : Heap} {L : Addr} {a b c d e f i j : Addr × Obj} {l : List (Addr × Obj)}
theorem perm5 (N : News h₀ L h (a :: b :: c :: d :: e :: f :: l)) : News h₀ L h (f :: a :: b :: c :: d :: e :: l) := News.sub N fun p hp => by
  revert p; (repeat (first | refine List.forall_mem_cons.mpr ⟨by with_reducible repeat (first | assumption | exact List.mem_cons_self | exact List.mem_append_left _ (by assumption) | refine List.mem_cons_of_mem _ ?_ | refine List.mem_append_right _ ?_), ?_⟩ | refine List.forall_mem_append.mpr ⟨by (intro _ _; with_reducible repeat (first | assumption | exact List.mem_cons_self | exact List.mem_append_left _ (by assumption) | refine List.mem_cons_of_mem _ ?_ | refine List.mem_append_right _ ?_)), ?_⟩)); (intro _ _; with_reducible repeat (first | assumption | exact List.mem_cons_self | exact List.mem_append_left _ (by assumption) | refine List.mem_cons_of_mem _ ?_ | refine List.mem_append_right _ ?_))
theorem permM (N : News h₀ L h (i :: a :: b :: c :: d :: e :: l)) : News h₀ L h (i :: e :: a :: b :: c :: d :: l) := News.sub N fun p hp => by
  revert p; (repeat (first | refine List.forall_mem_cons.mpr ⟨by with_reducible repeat (first | assumption | exact List.mem_cons_self | exact List.mem_append_left _ (by assumption) | refine List.mem_cons_of_mem _ ?_ | refine List.mem_append_right _ ?_), ?_⟩ | refine List.forall_mem_append.mpr ⟨by (intro _ _; with_reducible repeat (first | assumption | exact List.mem_cons_self | exact List.mem_append_left _ (by assumption) | refine List.mem_cons_of_mem _ ?_ | refine List.mem_append_right _ ?_)), ?_⟩)); (intro _ _; with_reducible repeat (first | assumption | exact List.mem_cons_self | exact List.mem_append_left _ (by assumption) | refine List.mem_cons_of_mem _ ?_ | refine List.mem_append_right _ ?_))
theorem perm1 (N : News h₀ L h (a :: b :: c :: d :: e :: l)) : News h₀ L h (e :: c :: a :: b :: d :: l) := News.sub N fun p hp => by
  revert p; (repeat (first | refine List.forall_mem_cons.mpr ⟨by with_reducible repeat (first | assumption | exact List.mem_cons_self | exact List.mem_append_left _ (by assumption) | refine List.mem_cons_of_mem _ ?_ | refine List.mem_append_right _ ?_), ?_⟩ | refine List.forall_mem_append.mpr ⟨by (intro _ _; with_reducible repeat (first | assumption | exact List.mem_cons_self | exact List.mem_append_left _ (by assumption) | refine List.mem_cons_of_mem _ ?_ | refine List.mem_append_right _ ?_)), ?_⟩)); (intro _ _; with_reducible repeat (first | assumption | exact List.mem_cons_self | exact List.mem_append_left _ (by assumption) | refine List.mem_cons_of_mem _ ?_ | refine List.mem_append_right _ ?_))
end
theorem TupN.skip {l l' : List (Addr × Obj)} {M : Addr} {its : Array Value} {n : Nat} (h : ∀ p ∈ l, p = (M, listOf its n) ∨ p ∈ l') {v : Value} {xs : List Int} : TupN l v xs → TupN l' v xs
  | ⟨a, its', k, e, hm, hi⟩ => by
    rcases h _ hm with q | q
    · have q2 := congrArg (fun p : Addr × Obj => p.2.cls) q
      simp at q2
    · exact ⟨a, its', k, e, q, hi⟩
end Mine
namespace Mine
theorem News.drop2 {h₀ h : Heap} {L : Addr} {a b : Addr × Obj} {l : List (Addr × Obj)} (N : News h₀ L h (a :: b :: l)) : News h₀ L h (a :: l) := News.sub N fun p hp => by
  rcases List.mem_cons.mp hp with rfl | hp
  · exact .head _
  · exact .tail _ (.tail _ hp)
end Mine
namespace Mine
theorem permN {h₀ h : Heap} {L : Addr} {f t d c3 c2 c1 : Addr × Obj} {add cs : List (Addr × Obj)} (N : News h₀ L h (f :: t :: (add ++ d :: c3 :: c2 :: c1 :: cs))) : News h₀ L h (c3 :: d :: f :: c2 :: c1 :: t :: (add ++ cs)) := News.sub N fun p hp => by
  revert p; (repeat (first | refine List.forall_mem_cons.mpr ⟨by with_reducible repeat (first | assumption | exact List.mem_cons_self | exact List.mem_append_left _ (by assumption) | refine List.mem_cons_of_mem _ ?_ | refine List.mem_append_right _ ?_), ?_⟩ | refine List.forall_mem_append.mpr ⟨by (intro _ _; with_reducible repeat (first | assumption | exact List.mem_cons_self | exact List.mem_append_left _ (by assumption) | refine List.mem_cons_of_mem _ ?_ | refine List.mem_append_right _ ?_)), ?_⟩)); (intro _ _; with_reducible repeat (first | assumption | exact List.mem_cons_self | exact List.mem_append_left _ (by assumption) | refine List.mem_cons_of_mem _ ?_ | refine List.mem_append_right _ ?_))
theorem permD {h₀ h : Heap} {L : Addr} {a b : Addr × Obj} {l : List (Addr × Obj)} (N : News h₀ L h (a :: b :: l)) : News h₀ L h (b :: a :: l) := News.swap N
end Mine
-- part Clo
set_option maxRecDepth 100000
namespace Mine
theorem enter_fn {prog : Program} {w : World} {A : Around} {E : Value → Shared → Prop} {s : Shared} {g : Heap} {news : List (Addr × Obj)} {name qual : Str} {params : Arguments} {body : List Stmt} {scope : Scope} {cl : List (Str × Addr)} {dV kV doc pm cdv ct : Value} {an : Option Addr} {fo : Obj} {f : Addr} {args : List Value} {binds : List (Str × Value)}
    {Q : Value → Shared → Prop}
    (hg : Sub g s.heap) (hsz : g.objs.size ≤ s.heap.objs.size) (hN : ∀ p ∈ news, s.heap.get? p.1 = some p.2 ∧ g.get? p.1 = none) (hlim : g.NoLimit)
    (ho : g.get? f = some fo) (hd : fo.data = .func (fnX name qual params body scope cl dV kV doc pm an cdv ct)) (hcd : g.CodeRec cdv qual) (hroom : A.depth < recursionLimit)
    (hbind : BindsTo s (fnX name qual params body scope cl dV kV doc pm an cdv ct) ⟨args, []⟩ binds) (hloc : ∀ y ∈ binds, scope.names.lookup y.1 = some .local)
    (h : ∀ L' h₁, Fr g L' h₁ (fun y => binds.reverse.lookup y) → News g L' h₁ news → (∀ p ∈ news, p.1 < L') →
      wpAny (model prog w) (A.deeper (envX qual scope L' f cdv cl)) (execs body (envX qual scope L' f cdv cl))
        (fun fl s' => Q (match fl with | .ret v => v | _ => .none) s') (fun _ _ => False) { s with heap := h₁, toks := s.toks + binds.length })
    (hcell : ∀ x ∈ scope.names, x.2 ≠ .cell) (hco : scope.isCoroutine = false) (hgen : scope.isGenerator = false) (hk : scope.kind = .function) : wpAny (model prog w) A (call (.ref f) args) Q E s := by
  refine wpAny_call (codeAny_call_def (fd := fnX name qual params body scope cl dV kV doc pm an cdv ct) (body := body) (binds := binds) hroom (hg _ _ ho) hd (hlim.keeps hg) (hcd.keeps hg) rfl hbind hcell hloc (fun h₁ hns hk₁ => ?_) hco hgen hk)
  refine wpAny_mono (h s.heap.objs.size h₁ ⟨hns, fun b o e => hk₁ b o (hg b o e), hsz⟩ (fun p hp => ⟨hk₁ _ _ (hN p hp).1, Nat.ne_of_lt (Heap.lt_size (hN p hp).1), (hN p hp).2⟩) fun p hp => Heap.lt_size (hN p hp).1) (fun _ _ x => x) fun _ _ x => x.elim

theorem enter_defC {prog : Program} {w : World} {A : Around} {E : Value → Shared → Prop} {s : Shared} {g : Heap} {K : Frag} {p : Program} {loose : List Str} {mean : ExcName → Option Value} {mg mb : Str → Option Value}
    {news : List (Addr × Obj)} {name qual : Str} {params : Arguments} {body : List Stmt} {scope : Scope} {dV kV doc pm cdv ct oc : Value} {an od : Option Addr} {osl : Array (Option Value)} {f : Addr} {args : List Value} {binds : List (Str × Value)}
    {Q : Value → Shared → Prop}
    (hg : Sub g s.heap) (hsz : g.objs.size ≤ s.heap.objs.size) (hN : ∀ p ∈ news, s.heap.get? p.1 = some p.2 ∧ g.get? p.1 = none)
    (X : K.In g) (T : Top p loose mean mg mb g)
    (ho : K.lookup f = some ⟨oc, od, .func (fnOf name qual params body scope dV kV doc pm an cdv ct), osl⟩) (hcd : codeIn K cdv qual = true) (hroom : A.depth < recursionLimit)
    (hbind : BindsTo s (fnOf name qual params body scope dV kV doc pm an cdv ct) ⟨args, []⟩ binds) (hkind : (binds.all fun y => scope.names.lookup y.1 == some .local || scope.names.lookup y.1 == some .cell) = true)
    (hnd : ((cellsFrom 0 scope.names []).map (·.1)).Nodup)
    (h : ∀ L' h₁ tk cells, Fr g L' h₁ (bindL (envOfC qual scope L' f cdv).kindOf binds fun _ => none) → News g L' h₁ (cells ++ news) →
      CellsAre (bindC (envOfC qual scope L' f cdv).kindOf binds fun _ => none) (cellsFrom (L' + 1) scope.names []) cells → (∀ p ∈ news, p.1 < L') →
      wpAny (model prog w) (A.deeper (envOfC qual scope L' f cdv)) (execs body (envOfC qual scope L' f cdv))
        (fun fl s' => Q (match fl with | .ret v => v | _ => .none) s') (fun _ _ => False) { s with heap := h₁, toks := tk })
    (hco : scope.isCoroutine = false) (hgen : scope.isGenerator = false) (hk : scope.kind = .function) : wpAny (model prog w) A (call (.ref f) args) Q E s := by
  refine wpAny_call (codeAny_call_function hroom (hg _ _ (X _ _ ho)) rfl hco hgen rfl ((codeRec_of X hcd).keeps hg) (hbind _ _ _ _ ?_))
  refine wpAny_newFunctionEnv_cells hk (kindsX hkind _) fun env' he s' x => ?_
  subst he
  refine ⟨(T.nolimit.keeps hg).keeps x.toInCall.keep, codeAny_func ?_⟩
  obtain ⟨h₁, tk, rfl, _⟩ := x.done
  have hk₁ := x.toInCall.keep
  obtain ⟨cells, NC, Y⟩ := Cl.news (h₀ := s.heap) (Nat.le_refl _) fun n c hm => ⟨x.cell n c (lookup_of_mem_nodup (cellsFrom_names scope.names 0 (s.heap.objs.size + 1) [] [] rfl ▸ hnd) hm), x.above n c hm⟩
  refine wpAny_mono (h s.heap.objs.size h₁ tk cells ⟨x.toInCall.ns, fun b o e => hk₁ b o (hg b o e), hsz⟩ (fun p hp => ?_) Y (fun p hp => Heap.lt_size (hN p hp).1)) (fun _ _ x => x) fun _ _ x => x.elim
  rcases List.mem_append.mp hp with hp | hp
  · refine ⟨(NC p hp).1, (NC p hp).2.1, ?_⟩
    cases q : g.get? p.1 with
    | none => rfl
    | some o => have := hg _ _ q; rw [(NC p hp).2.2] at this; cases this
  · exact ⟨hk₁ _ _ (hN p hp).1, Nat.ne_of_lt (Heap.lt_size (hN p hp).1), (hN p hp).2⟩
section
variable {M : Model} {A : Around} {E : Value → Shared → Prop} {s : Shared} {h₀ : Heap} {L a : Addr} {m : Str → Option Value} {cn : Str} {cs : Scope} {ccd : Value} {cl : List (Str × Addr)} {x : Str} {pos : Pos} {v : Value} {Q : Value → Shared → Prop} {c : Addr} {o : Obj}
/-- a free name, its cell in the part that stays -/
theorem nameX_FG (F : Fr h₀ L s.heap m) (hc : cl.lookup x = some c) (ho : h₀.get? c = some o) (hv : o.data = .cell (some v)) (h : Q v s)
    (hk : cs.kind = .function := by rfl) (hx : (envX cn cs L a ccd cl).kindOf x = some .free := by rfl) (hb : (x == ("__debug__" : Str)) = false := by decide) (hn : (x == ("__classdict__" : Str)) = false := by decide) :
    wpAny M A (eval (.Name x pos) (envX cn cs L a ccd cl)) Q E s := wpAny_Name (wpAny_loadName_free hk hx hc ⟨_, F.keep _ _ ho, hv⟩ h hn) hb
theorem nmF (hx : (envX cn cs L a ccd cl).kindOf x = some .free) (hk : cs.kind = .function) (hb : (x == ("__debug__" : Str)) = false) (hn : (x == ("__classdict__" : Str)) = false) (F : Fr h₀ L s.heap m) (hc : cl.lookup x = some c) (ho : h₀.get? c = some o) (hv : o.data = .cell (some v)) (h : Q v s) :
    wpAny M A (eval (.Name x pos) (envX cn cs L a ccd cl)) Q E s := nameX_FG F hc ho hv h hk hx hb hn
end
end Mine
namespace Mine
theorem fold_rep {v : Value} : ∀ (k : Nat) (acc : Array Value), List.foldl (fun x1 x2 => x1 ++ x2) acc (List.replicate k #[v]) = acc ++ (List.replicate k v).toArray
  | 0, acc => by simp
  | k + 1, acc => by
    rw [List.replicate_succ, List.foldl_cons, fold_rep k]
    apply Array.toList_inj.mp
    simp [List.replicate_succ]
section
variable {prog : Program} {w : World} {A : Around} {E : Value → Shared → Prop} {s : Shared} {h₀ : Heap} {L D : Addr} {m : Str → Option Value} {news : List (Addr × Obj)} {n k : Nat} {x : Int} {u : Tok} {v : Value} {Q : Value → Shared → Prop}
theorem m_rep (F : Fr h₀ L s.heap m) (N : News h₀ L s.heap news) (hm : (D, listOf #[v] n) ∈ news) (hx : x = (k : Int)) (hk : k < 1000)
    (h : ∀ l h', Fr h₀ L h' m → News h₀ L h' ((l, listOf (List.replicate k v).toArray 0) :: news) → (∀ p ∈ news, p.1 < l) → Q (.ref l) { s with heap := h' }) : wpAny (model prog w) A (binaryOp .Mult (.ref D) (.int x u)) Q E s := by
  subst hx
  refine mul_list F N (N _ hm).1 (by omega) (by omega) (by simp; omega) fun h' F' N' => ?_
  have e : List.foldl (fun x1 x2 => x1 ++ x2) #[] (List.replicate (if (#[v] : Array Value).isEmpty = true then 0 else (k : Int).toNat) #[v]) = (List.replicate k v).toArray := by
    rw [if_neg (by simp), fold_rep]; simp
  rw [e] at N'
  exact h _ h' F' N' fun p hp => Heap.lt_size (N p hp).1
end
end Mine
namespace Mine
section
variable {g h h' : Heap} {L : Addr} {m : Str → Option Value} {tl tl' rest : List (Addr × Obj)}
theorem hideL_sub : Sub (hideAll h (tl.map (·.1))) h := fun _ _ e => of_hideAll _ e
theorem hideL_above (F : Fr g L h m) (N : News g L h (tl ++ rest)) : Sub g (hideAll h (tl.map (·.1))) := fun b o e => hideAll_get _ (F.keep b o e) fun q => by
  obtain ⟨p, hp, rfl⟩ := List.mem_map.mp q
  rw [(N p (List.mem_append_left _ hp)).2.2] at e; cases e
theorem hideL_none : ∀ p ∈ tl, (hideAll h (tl.map (·.1))).get? p.1 = none := fun _ hp => hideAll_none _ (List.mem_map_of_mem hp)
theorem hideL_back (F : Fr g L h m) (N : News g L h (tl ++ rest)) (hd : ∀ p ∈ rest, p.1 ∉ tl.map (·.1)) (hs : Sub (hideAll h (tl.map (·.1))) h')
    (ht : ∀ p ∈ tl', h'.get? p.1 = some p.2 ∧ (hideAll h (tl.map (·.1))).get? p.1 = none) : Fr g L h' m ∧ News g L h' (tl' ++ rest) ∧ ∀ p ∈ rest, p.1 ∉ tl'.map (·.1) := by
  obtain ⟨oL, a1, a2, hL, a3⟩ := F.ns
  have hLt : (hideAll h (tl.map (·.1))).get? L = some oL := hideAll_get _ hL fun q => by
    obtain ⟨p, hp, e⟩ := List.mem_map.mp q
    exact (N p (List.mem_append_left _ hp)).2.1 e
  have hr : ∀ p ∈ rest, (hideAll h (tl.map (·.1))).get? p.1 = some p.2 := fun p hp => hideAll_get _ (N p (List.mem_append_right _ hp)).1 (hd p hp)
  refine ⟨⟨⟨oL, a1, a2, hs _ _ hLt, a3⟩, fun b o e => hs _ _ (hideL_above F N b o e), F.above⟩, fun p hp => ?_, fun p hp q => ?_⟩
  · rcases List.mem_append.mp hp with hp | hp
    · refine ⟨(ht p hp).1, fun q => ?_, ?_⟩
      · have := (ht p hp).2; rw [q, hLt] at this; cases this
      · cases q : g.get? p.1 with
        | none => rfl
        | some o => have := (ht p hp).2; rw [hideL_above F N _ _ q] at this; cases this
    · exact ⟨hs _ _ (hr p hp), (N p (List.mem_append_right _ hp)).2⟩
  · obtain ⟨t, ht', e⟩ := List.mem_map.mp q
    have := (ht t ht').2
    rw [e, hr p hp] at this; cases this
end
end Mine
namespace Mine
section
variable {M : Model} {A : Around} {E : Value → Shared → Prop} {s : Shared} {h₀ : Heap} {L a c P : Addr} {m mg mb : Str → Option Value} {cn : Str} {cs : Scope} {ccd : Value} {cl : List (Str × Addr)} {rest : List (Addr × Obj)}
  {p : Program} {loose : List Str} {mean : ExcName → Option Value} {name qual : Str} {params : Arguments} {body : List Stmt} {scope : Scope} {ps : Array Value} {pos : Pos} {firstLine : Nat} {clos : List (Str × Addr)}
theorem nest_any {Q : Value → Shared → Prop} (F : Fr h₀ L s.heap m) (N : News h₀ L s.heap ((P, tabObj ps) :: rest)) (T : Top p loose mean mg mb h₀) (C : CodeHd h₀ c P) (hcd : ccd = .ref c) (hrest : ∀ q ∈ rest, q.1 ≠ P)
    (hps : ps = #[] ∨ ∃ (c' : Addr) (oc : Obj) (vs : Array Value) (t : Tok), ps = #[rawInt pos.line, rawInt pos.col, .ref c'] ∧ (c', oc) ∈ rest ∧ oc.data = .fields vs ∧ vs[1]? = some (.str qual t))
    (hcl : closureFor scope (envX cn cs L a ccd cl) = pure clos)
    (h : ∀ f c' oc vs t ctv doc add h' tk, Fr h₀ L h' m → News h₀ L h' ((f, fnMade name qual params body scope clos doc ((mg "__name__").getD .none) c' ctv) :: (P, tabObj #[rawInt pos.line, rawInt pos.col, .ref c']) :: (add ++ rest)) →
      (c', oc) ∈ add ++ rest → oc.data = .fields vs → vs[1]? = some (.str qual t) → (∀ q ∈ add, ∀ r ∈ (P, tabObj ps) :: rest, r.1 < q.1) → (∀ q ∈ (P, tabObj ps) :: (add ++ rest), q.1 < f) → Q (.ref f) { s with heap := h', toks := tk }) :
    wpAny M A (makeFunction name qual params (.stmts body) scope (envX cn cs L a ccd cl) [] [] [] pos firstLine) Q E s := by
  rcases hps with rfl | ⟨c', oc, vs, t, rfl, hm, hd, hv⟩
  · refine nest_K F N T C hcd (UpdF.head hrest) trivial rfl hcl fun f c' oc vs t ctv doc h' tk F' N' hd hv hlt hf => ?_
    refine h f c' oc vs t ctv doc [(c', oc)] h' tk F' (fun q hq => N' q ?_) (.head _) hd hv (fun q hq r hr => by rw [List.mem_singleton.mp hq]; exact hlt r hr) fun q hq => ?_
    · simp only [List.mem_cons, List.cons_append, List.nil_append] at hq ⊢
      rcases hq with h | h | h | h
      · exact .inl h
      · exact .inr (.inr (.inl (by simpa using h)))
      · exact .inr (.inl h)
      · exact .inr (.inr (.inr h))
    · simp only [List.mem_cons, List.cons_append, List.nil_append] at hq
      rcases hq with h | h | h
      · exact Nat.lt_trans (hlt q (by rw [h]; exact .head _)) hf
      · rw [h]; exact hf
      · exact Nat.lt_trans (hlt q (.tail _ h)) hf
  · refine nestHit_K F N T C hcd (.head _) trivial (c' := c') ?_ hcl fun f ctv doc h' tk F' N' hlt => ?_
    · show (if _ then _ else _) = _
      rw [if_pos]
      simp [rawInt]
    · exact h f c' oc vs t ctv doc [] h' tk F' N' hm hd hv (fun q hq => nomatch hq) hlt
end
end Mine
namespace Mine
theorem ints_rep (t : Tok) : ∀ k : Nat, IntsAre (List.replicate k (Value.int 0 t)) (List.replicate k 0)
  | 0 => .nil
  | k + 1 => .cons 0 t (ints_rep t k)
noncomputable def qInner (f : String) : Str := (Str.ofString f ++ ".<locals>.") ++ Str.ofString "inner"
end Mine
namespace Mine
theorem fnAt_keep {g h : Heap} {L f : Addr} {m : Str → Option Value} (F : Fr g L h m) (hf : FnAt f g) : FnAt f h := by
  obtain ⟨oc, od, fd, sl, e⟩ := hf
  exact ⟨oc, od, fd, sl, F.keep _ _ e⟩
section
variable {prog : Program} {w : World} {A : Around} {E : Value → Shared → Prop} {s : Shared} {a b : Int} {x sh : Nat} {t u : Tok} {Q : Value → Shared → Prop}
theorem m_shr (ha : a = (x : Int)) (hb : b = (sh : Int)) (h : ∀ t tk, Q (.int ((x / 2 ^ sh : Nat) : Int) t) { s with toks := tk }) : wpAny (model prog w) A (binaryOp .RShift (.int a t) (.int b u)) Q E s := by
  subst ha hb
  refine rshift_int (by omega) ?_
  have e : ((x : Int)).fdiv (2 ^ (sh : Int).toNat) = ((x / 2 ^ sh : Nat) : Int) := by
    rw [Int.toNat_natCast, Int.fdiv_eq_ediv_of_nonneg _ (by exact_mod_cast Nat.zero_le (2 ^ sh))]
    push_cast
    rfl
  rw [e]
  exact h _ _
theorem m_mulN (hm : b < 18446744073709551616) (hm' : -18446744073709551616 < b) (h : ∀ t tk, Q (.int (a * b) t) { s with toks := tk }) : wpAny (model prog w) A (binaryOp .Mult (.int a t) (.int b u)) Q E s :=
  P.mul_int (h _ _) (IntMulOk.of_right (intBits_le_64 (by omega) (by omega)))
end
end Mine
namespace Mine
theorem and_high (x s : Nat) : x &&& (x / 2 ^ s * 2 ^ s) = x / 2 ^ s * 2 ^ s := by
  apply Nat.eq_of_testBit_eq
  intro i
  rw [Nat.testBit_and, ← Nat.shiftLeft_eq, ← Nat.shiftRight_eq_div_pow, Nat.testBit_shiftLeft, Nat.testBit_shiftRight]
  by_cases h : s ≤ i
  · have : s + (i - s) = i := by omega
    simp [h, this]
  · simp [h]
section
variable {prog : Program} {w : World} {A : Around} {E : Value → Shared → Prop} {s : Shared} {a b : Int} {x y sh : Nat} {t u : Tok} {Q : Value → Shared → Prop}
theorem m_shl (ha : a = (x : Int)) (hb : b = (sh : Int)) (hx : x < 2 ^ 64) (hs : sh ≤ 100000) (h : ∀ t tk, Q (.int ((x * 2 ^ sh : Nat) : Int) t) { s with toks := tk }) : wpAny (model prog w) A (binaryOp .LShift (.int a t) (.int b u)) Q E s := by
  subst ha hb
  refine lshift_int_small (by omega) (by omega) (by omega) ?_
  have e : ((x : Int)) * 2 ^ (sh : Int).toNat = ((x * 2 ^ sh : Nat) : Int) := by
    rw [Int.toNat_natCast]; push_cast; rfl
  rw [e]
  exact h _ _
theorem m_xlow (h : ∀ t tk, Q (.int ((x % 2 ^ sh : Nat) : Int) t) { s with toks := tk }) : wpAny (model prog w) A (binaryOp .BitXor (.int (x : Int) t) (.int ((x / 2 ^ sh * 2 ^ sh : Nat) : Int) u)) Q E s := by
  refine xor_int ?_
  have e : Builtin.bitXor (x : Int) ((x / 2 ^ sh * 2 ^ sh : Nat) : Int) = ((x % 2 ^ sh : Nat) : Int) := by
    rw [bitXor_and, bitAnd_pp (by omega) (by omega), Int.toNat_natCast, Int.toNat_natCast, and_high]
    have := Nat.div_add_mod x (2 ^ sh)
    rw [Nat.mul_comm] at this
    omega
  rw [e]
  exact h _ _
end
end Mine
-- part Red
namespace Mine
theorem sq_pos {y : Int} (h : y ≠ 0) : 1 ≤ y * y := by
  rcases Int.lt_or_gt_of_ne h with h | h
  · have : 0 ≤ (-y - 1) * (-y) := Int.mul_nonneg (by omega) (by omega)
    grind
  · have : 0 ≤ (y - 1) * y := Int.mul_nonneg (by omega) (by omega)
    grind
theorem sq_nn (y : Int) : 0 ≤ y * y := by
  by_cases h : y = 0
  · subst h; decide
  · have := sq_pos h; omega
theorem form_ge {A B C x y : Int} (h0 : 0 < A) (h1 : -A ≤ 2 * B) (h2 : 2 * B ≤ A) (h3 : A ≤ C) (hy : y ≠ 0) : C ≤ A * x * x + 2 * B * x * y + C * y * y := by
  have y1 := sq_pos hy
  have p1 : 0 ≤ (C - A) * (y * y - 1) := Int.mul_nonneg (by omega) (by omega)
  rcases Int.le_total 0 (x * y) with h | h
  · have p2 : 0 ≤ (A + 2 * B) * (x * y) := Int.mul_nonneg (by omega) h
    have p3 : 1 ≤ x * x - x * y + y * y := by
      have := sq_nn (2 * x - y)
      have e : (2 * x - y) * (2 * x - y) = 4 * (x * x) - 4 * (x * y) + y * y := by grind
      omega
    have p4 : 0 ≤ A * (x * x - x * y + y * y - 1) := Int.mul_nonneg (by omega) (by omega)
    grind
  · have p2 : 0 ≤ (A - 2 * B) * (-(x * y)) := Int.mul_nonneg (by omega) (by omega)
    have p3 : 1 ≤ x * x + x * y + y * y := by
      have := sq_nn (2 * x + y)
      have e : (2 * x + y) * (2 * x + y) = 4 * (x * x) + 4 * (x * y) + y * y := by grind
      omega
    have p4 : 0 ≤ A * (x * x + x * y + y * y - 1) := Int.mul_nonneg (by omega) (by omega)
    grind
theorem form_ge1 {A B C x y : Int} (h0 : 0 < A) (h1 : -A ≤ 2 * B) (h2 : 2 * B ≤ A) (h3 : A ≤ C) (h : x ≠ 0 ∨ y ≠ 0) : A ≤ A * x * x + 2 * B * x * y + C * y * y := by
  by_cases hy : y = 0
  · subst hy
    have x1 := sq_pos (show x ≠ 0 by omega)
    have p : 0 ≤ A * (x * x - 1) := Int.mul_nonneg (by omega) (by omega)
    grind
  · have := form_ge (x := x) h0 h1 h2 h3 hy
    omega
/-- the second value of a basis, its first not above it -/
theorem form_ge2 {A B C p q r s : Int} (h0 : 0 < A) (h1 : -A ≤ 2 * B) (h2 : 2 * B ≤ A) (h3 : A ≤ C) (hd : p * s - q * r = 1 ∨ p * s - q * r = -1)
    (hle : A * p * p + 2 * B * p * q + C * q * q ≤ A * r * r + 2 * B * r * s + C * s * s) : C ≤ A * r * r + 2 * B * r * s + C * s * s := by
  by_cases hs : s = 0
  · have hq : q ≠ 0 := by rintro rfl; subst hs; omega
    have := form_ge (x := p) h0 h1 h2 h3 hq
    omega
  · exact form_ge h0 h1 h2 h3 hs

noncomputable def bil (R G B x y u v : Int) : Int := R * x * u + G * y * v + B * (x - y) * (u - v)
noncomputable def Bas (R G B a b c : Int) : Prop := ∃ x y u v : Int, (x * v - y * u = 1 ∨ x * v - y * u = -1) ∧ a = bil R G B x y x y ∧ b = bil R G B x y u v ∧ c = bil R G B u v u v
theorem Bas.swap {R G B a b c : Int} : Bas R G B a b c → Bas R G B c b a := by
  rintro ⟨x, y, u, v, hd, rfl, rfl, rfl⟩
  refine ⟨u, v, x, y, ?_, rfl, ?_, rfl⟩
  · rcases hd with h | h
    · right; grind
    · left; grind
  · unfold bil; grind
theorem Bas.shear {R G B a b c k : Int} : Bas R G B a b c → Bas R G B a (b - k * a) (c - 2 * k * b + k * k * a) := by
  rintro ⟨x, y, u, v, hd, rfl, rfl, rfl⟩
  refine ⟨x, y, u - k * x, v - k * y, ?_, rfl, ?_, ?_⟩
  · rcases hd with h | h
    · left; grind
    · right; grind
  · unfold bil; grind
  · unfold bil; grind
theorem bil_pos {R G B x y : Int} (hR : 0 ≤ R) (hG : 0 ≤ G) (hB : 0 ≤ B) (h : (0 < R ∧ 0 < G) ∨ (0 < R ∧ 0 < B) ∨ (0 < G ∧ 0 < B)) (hz : x ≠ 0 ∨ y ≠ 0) : 0 < bil R G B x y x y := by
  unfold bil
  have e : R * x * x + G * y * y + B * (x - y) * (x - y) = R * (x * x) + G * (y * y) + B * ((x - y) * (x - y)) := by grind
  rw [e]
  have a1 := Int.mul_nonneg hR (sq_nn x)
  have a2 := Int.mul_nonneg hG (sq_nn y)
  have a3 := Int.mul_nonneg hB (sq_nn (x - y))
  have big : ∀ {k z : Int}, 0 < k → z ≠ 0 → 0 < k * (z * z) := fun hk hz => Int.mul_pos hk (by have := sq_pos hz; omega)
  by_cases hx : x = 0
  · have hy : y ≠ 0 := by omega
    rcases h with ⟨h1, h2⟩ | ⟨h1, h2⟩ | ⟨h1, h2⟩
    · have := big h2 hy; omega
    · have := big h2 (show x - y ≠ 0 by omega); omega
    · have := big h1 hy; omega
  · rcases h with ⟨h1, h2⟩ | ⟨h1, h2⟩ | ⟨h1, h2⟩
    · have := big h1 hx; omega
    · have := big h1 hx; omega
    · by_cases hy : y = 0
      · have := big h2 (show x - y ≠ 0 by omega); omega
      · have := big h1 hy; omega
theorem det_nz {x y u v : Int} (hd : x * v - y * u = 1 ∨ x * v - y * u = -1) : (x ≠ 0 ∨ y ≠ 0) ∧ (u ≠ 0 ∨ v ≠ 0) := by
  constructor
  · by_cases hx : x = 0
    · right; rintro rfl; subst hx; omega
    · exact .inl hx
  · by_cases hx : u = 0
    · right; rintro rfl; subst hx; omega
    · exact .inl hx
theorem Bas.pos {R G B a b c : Int} (hR : 0 ≤ R) (hG : 0 ≤ G) (hB : 0 ≤ B) (h : (0 < R ∧ 0 < G) ∨ (0 < R ∧ 0 < B) ∨ (0 < G ∧ 0 < B)) : Bas R G B a b c → 0 < a ∧ 0 < c := by
  rintro ⟨x, y, u, v, hd, rfl, rfl, rfl⟩
  exact ⟨bil_pos hR hG hB h (det_nz hd).1, bil_pos hR hG hB h (det_nz hd).2⟩
/-- two bases, both reduced: the values agree -/
theorem bas_le {R G B x y u v x' y' u' v' : Int} (hd : x * v - y * u = 1 ∨ x * v - y * u = -1) (hd' : x' * v' - y' * u' = 1 ∨ x' * v' - y' * u' = -1)
    (h0 : 0 < bil R G B x y x y) (h1 : -bil R G B x y x y ≤ 2 * bil R G B x y u v) (h2 : 2 * bil R G B x y u v ≤ bil R G B x y x y) (h3 : bil R G B x y x y ≤ bil R G B u v u v) (h3' : bil R G B x' y' x' y' ≤ bil R G B u' v' u' v') :
    bil R G B x y x y ≤ bil R G B x' y' x' y' ∧ bil R G B u v u v ≤ bil R G B u' v' u' v' := by
  obtain ⟨e, he, hee⟩ : ∃ e : Int, x * v - y * u = e ∧ e * e = 1 := by
    rcases hd with h | h <;> exact ⟨_, h, rfl⟩
  obtain ⟨p, hp⟩ : ∃ p : Int, p = e * (x' * v - y' * u) := ⟨_, rfl⟩
  obtain ⟨q, hq⟩ : ∃ q : Int, q = e * (x * y' - y * x') := ⟨_, rfl⟩
  obtain ⟨r, hr⟩ : ∃ r : Int, r = e * (u' * v - v' * u) := ⟨_, rfl⟩
  obtain ⟨s, hs⟩ : ∃ s : Int, s = e * (x * v' - y * u') := ⟨_, rfl⟩
  have ex : x' = p * x + q * u := by grind
  have ey : y' = p * y + q * v := by grind
  have eu : u' = r * x + s * u := by grind
  have ev : v' = r * y + s * v := by grind
  have hd2 : p * s - q * r = 1 ∨ p * s - q * r = -1 := by
    have : x' * v' - y' * u' = (p * s - q * r) * e := by rw [ex, ey, eu, ev, ← he]; grind
    have he1 : e = 1 ∨ e = -1 := by rcases hd with h | h <;> omega
    rcases he1 with rfl | rfl <;> omega
  have f1 : bil R G B x' y' x' y' = bil R G B x y x y * p * p + 2 * bil R G B x y u v * p * q + bil R G B u v u v * q * q := by rw [ex, ey]; unfold bil; grind
  have f2 : bil R G B u' v' u' v' = bil R G B x y x y * r * r + 2 * bil R G B x y u v * r * s + bil R G B u v u v * s * s := by rw [eu, ev]; unfold bil; grind
  rw [f1, f2] at h3' ⊢
  exact ⟨form_ge1 h0 h1 h2 h3 (det_nz hd2).1, form_ge2 h0 h1 h2 h3 hd2 h3'⟩
theorem sq_inj {b d : Int} (h : b * b = d * d) : b.natAbs = d.natAbs := by
  have e : (b - d) * (b + d) = 0 := by grind
  rcases Int.mul_eq_zero.mp e with h | h <;> omega
theorem bas_eq {R G B a b c x y u v : Int} (hR : 0 ≤ R) (hG : 0 ≤ G) (hB : 0 ≤ B) (h : (0 < R ∧ 0 < G) ∨ (0 < R ∧ 0 < B) ∨ (0 < G ∧ 0 < B)) (H : Bas R G B a b c) (r1 : -a ≤ 2 * b) (r2 : 2 * b < a) (r3 : a ≤ c)
    (hd : x * v - y * u = 1 ∨ x * v - y * u = -1) (h1 : -bil R G B x y x y ≤ 2 * bil R G B x y u v) (h2 : 2 * bil R G B x y u v ≤ bil R G B x y x y) (h3 : bil R G B x y x y ≤ bil R G B u v u v) :
    a = bil R G B x y x y ∧ b.natAbs = (bil R G B x y u v).natAbs ∧ c = bil R G B u v u v := by
  obtain ⟨x', y', u', v', hd', rfl, rfl, rfl⟩ := H
  have p1 := bil_pos hR hG hB h (det_nz hd).1
  have p2 := bil_pos hR hG hB h (det_nz hd').1
  obtain ⟨a1, a2⟩ := bas_le hd hd' p1 h1 h2 h3 r3
  obtain ⟨b1, b2⟩ := bas_le hd' hd p2 r1 (by omega) r3 h3
  have ea : bil R G B x' y' x' y' = bil R G B x y x y := by omega
  have ec : bil R G B u' v' u' v' = bil R G B u v u v := by omega
  refine ⟨ea, sq_inj ?_, ec⟩
  have D : ∀ x y u v : Int, (x * v - y * u = 1 ∨ x * v - y * u = -1) → bil R G B x y u v * bil R G B x y u v = bil R G B x y x y * bil R G B u v u v - (R * G + R * B + G * B) := by
    intro x y u v hd
    have e : (x * v - y * u) * (x * v - y * u) = 1 := by rcases hd with h | h <;> rw [h] <;> rfl
    have i : bil R G B x y u v * bil R G B x y u v = bil R G B x y x y * bil R G B u v u v - (R * G + R * B + G * B) * ((x * v - y * u) * (x * v - y * u)) := by unfold bil; grind
    rw [i, e, Int.mul_one]
  rw [D _ _ _ _ hd, D _ _ _ _ hd', ea, ec]
theorem bas_eq' {R G B a b c : Int} (x y u v : Int) {A β C : Int} (hR : 0 ≤ R) (hG : 0 ≤ G) (hB : 0 ≤ B) (h : (0 < R ∧ 0 < G) ∨ (0 < R ∧ 0 < B) ∨ (0 < G ∧ 0 < B)) (H : Bas R G B a b c) (r1 : -a ≤ 2 * b) (r2 : 2 * b < a) (r3 : a ≤ c)
    (hd : x * v - y * u = 1 ∨ x * v - y * u = -1) (eA : bil R G B x y x y = A) (eB : bil R G B x y u v = β) (eC : bil R G B u v u v = C) (h1 : -A ≤ 2 * β) (h2 : 2 * β ≤ A) (h3 : A ≤ C) :
    a = A ∧ b.natAbs = β.natAbs ∧ c = C := by
  subst eA eB eC
  exact bas_eq hR hG hB h H r1 r2 r3 hd h1 h2 h3
theorem sort_fin {R G B A β C : Int} {a : Int} {bn : Nat} {c : Int} (e : a = A ∧ bn = β.natAbs ∧ c = C) (h : A = R + G + B - max R (max G B) ∧ (β.natAbs : Int) = min R (min G B) ∧ C = min R (min G B) + max R (max G B)) :
    a = R + G + B - max R (max G B) ∧ (bn : Int) = min R (min G B) ∧ c = min R (min G B) + max R (max G B) := by
  obtain ⟨rfl, rfl, rfl⟩ := e
  exact h
set_option maxHeartbeats 2000000 in
section
variable {x y z : Int}
theorem mx1 (a : y ≤ x) (b : z ≤ x) : max x (max y z) = x := Int.max_eq_left (Int.max_le.mpr ⟨a, b⟩)
theorem mx2 (a : x ≤ y) (b : z ≤ y) : max x (max y z) = y := by rw [Int.max_eq_left b, Int.max_eq_right a]
theorem mx3 (a : x ≤ z) (b : y ≤ z) : max x (max y z) = z := by rw [Int.max_eq_right b, Int.max_eq_right a]
theorem mn1 (a : x ≤ y) (b : x ≤ z) : min x (min y z) = x := Int.min_eq_left (Int.le_min.mpr ⟨a, b⟩)
theorem mn2 (a : y ≤ x) (b : y ≤ z) : min x (min y z) = y := by rw [Int.min_eq_left b, Int.min_eq_right a]
theorem mn3 (a : z ≤ x) (b : z ≤ y) : min x (min y z) = z := by rw [Int.min_eq_right b, Int.min_eq_right a]
end
theorem bas_red {R G B a b c : Int} (hR : 0 ≤ R) (hG : 0 ≤ G) (hB : 0 ≤ B) (h : (0 < R ∧ 0 < G) ∨ (0 < R ∧ 0 < B) ∨ (0 < G ∧ 0 < B)) (H : Bas R G B a b c) (r1 : -a ≤ 2 * b) (r2 : 2 * b < a) (r3 : a ≤ c) :
    a = R + G + B - max R (max G B) ∧ (b.natAbs : Int) = min R (min G B) ∧ c = min R (min G B) + max R (max G B) := by
  have n1 : bil R G B 1 0 1 0 = R + B := by unfold bil; omega
  have n2 : bil R G B 0 1 0 1 = G + B := by unfold bil; omega
  have n3 : bil R G B 1 1 1 1 = R + G := by unfold bil; omega
  have m12 : bil R G B 1 0 0 1 = -B := by unfold bil; omega
  have m21 : bil R G B 0 1 1 0 = -B := by unfold bil; omega
  have m13 : bil R G B 1 0 1 1 = R := by unfold bil; omega
  have m31 : bil R G B 1 1 1 0 = R := by unfold bil; omega
  have m23 : bil R G B 0 1 1 1 = G := by unfold bil; omega
  have m32 : bil R G B 1 1 0 1 = G := by unfold bil; omega
  have K := @bas_eq' R G B a b c
  by_cases c1 : B ≤ R ∧ B ≤ G
  · by_cases c2 : R ≤ G
    · refine sort_fin (K 1 0 0 1 hR hG hB h H r1 r2 r3 (by decide) n1 m12 n2 ?_ ?_ ?_) ?_ <;> (clear K n1 n2 n3 m12 m21 m13 m31 m23 m32 H r1 r2 r3 h; first | (rw [mx2 c2 c1.2, mn3 c1.1 c1.2, Int.natAbs_neg, Int.natAbs_of_nonneg hB]; omega) | omega)
    · have d2 := Int.le_of_lt (Int.not_le.mp c2)
      refine sort_fin (K 0 1 1 0 hR hG hB h H r1 r2 r3 (by decide) n2 m21 n1 ?_ ?_ ?_) ?_ <;> (clear K n1 n2 n3 m12 m21 m13 m31 m23 m32 H r1 r2 r3 h; first | (rw [mx1 d2 c1.1, mn3 c1.1 c1.2, Int.natAbs_neg, Int.natAbs_of_nonneg hB]; omega) | omega)
  · by_cases c3 : R ≤ G
    · by_cases c2 : B ≤ G
      · have d1 := Int.le_of_lt (Int.not_le.mp fun q => c1 ⟨q, c2⟩)
        refine sort_fin (K 1 0 1 1 hR hG hB h H r1 r2 r3 (by decide) n1 m13 n3 ?_ ?_ ?_) ?_ <;> (clear K n1 n2 n3 m12 m21 m13 m31 m23 m32 H r1 r2 r3 h; first | (rw [mx2 c3 c2, mn1 c3 d1, Int.natAbs_of_nonneg hR]; omega) | omega)
      · have d2 := Int.le_of_lt (Int.not_le.mp c2)
        have d1 := Int.le_trans c3 d2
        refine sort_fin (K 1 1 1 0 hR hG hB h H r1 r2 r3 (by decide) n3 m31 n1 ?_ ?_ ?_) ?_ <;> (clear K n1 n2 n3 m12 m21 m13 m31 m23 m32 H r1 r2 r3 h; first | (rw [mx3 d1 d2, mn1 c3 d1, Int.natAbs_of_nonneg hR]; omega) | omega)
    · by_cases c2 : B ≤ R
      · have d3 := Int.le_of_lt (Int.not_le.mp c3)
        have d1 := Int.le_of_lt (Int.not_le.mp fun q => c1 ⟨c2, q⟩)
        refine sort_fin (K 0 1 1 1 hR hG hB h H r1 r2 r3 (by decide) n2 m23 n3 ?_ ?_ ?_) ?_ <;> (clear K n1 n2 n3 m12 m21 m13 m31 m23 m32 H r1 r2 r3 h; first | (rw [mx1 d3 c2, mn2 d3 d1, Int.natAbs_of_nonneg hG]; omega) | omega)
      · have d3 := Int.le_of_lt (Int.not_le.mp c3)
        have d2 := Int.le_of_lt (Int.not_le.mp c2)
        have d1 := Int.le_trans d3 d2
        refine sort_fin (K 1 1 0 1 hR hG hB h H r1 r2 r3 (by decide) n3 m32 n2 ?_ ?_ ?_) ?_ <;> (clear K n1 n2 n3 m12 m21 m13 m31 m23 m32 H r1 r2 r3 h; first | (rw [mx3 d2 d1, mn2 d3 d1, Int.natAbs_of_nonneg hG]; omega) | omega)
/-- the basis that the law hands to the reduction -/
theorem bas_start {R G B x y u v to fro : Int} (hd : x * v - y * u = 1 ∨ x * v - y * u = -1) :
    Bas R G B (bil R G B (u + fro * (x + to * u)) (v + fro * (y + to * v)) (u + fro * (x + to * u)) (v + fro * (y + to * v)))
      (bil R G B (u + fro * (x + to * u)) (v + fro * (y + to * v)) (x + to * u) (y + to * v)) (bil R G B (x + to * u) (y + to * v) (x + to * u) (y + to * v)) := by
  refine ⟨_, _, _, _, ?_, rfl, rfl, rfl⟩
  rcases hd with h | h
  · right; grind
  · left; grind
theorem bil_half {R G B x y u v : Int} : (bil R G B (x + u) (y + v) (x + u) (y + v) - bil R G B x y x y - bil R G B u v u v).fdiv 2 = bil R G B x y u v := by
  have e : bil R G B (x + u) (y + v) (x + u) (y + v) - bil R G B x y x y - bil R G B u v u v = 2 * bil R G B x y u v := by unfold bil; grind
  rw [e, Int.fdiv_eq_ediv_of_nonneg _ (by decide)]
  omega
end Mine
-- part FlR
open PySem PySem.W PyProof.Rows PySem.Calls PySem.Flt
namespace Mine
noncomputable def ltF (a b : UInt64) : Bool := Float64.cmp a b == some .lt
noncomputable def fmax3 (a b c : UInt64) : UInt64 := if ltF (if ltF a b then b else a) c then c else (if ltF a b then b else a)
noncomputable def fmin3 (a b c : UInt64) : UInt64 := if ltF c (if ltF b a then b else a) then c else (if ltF b a then b else a)
theorem best3 {bt : Nat → Nat → Bool} {p q r : Bool} (h10 : bt 1 0 = p) (h20 : bt 2 0 = q) (h21 : bt 2 1 = r) : argBest bt 2 = if p then (if r then 2 else 1) else (if q then 2 else 0) := by
  show (if bt 2 (if bt 1 0 then 1 else 0) then 2 else (if bt 1 0 then 1 else 0)) = _
  rw [h10]
  cases p with
  | true =>
    show (if bt 2 1 then 2 else 1) = _
    rw [h21]; rfl
  | false =>
    show (if bt 2 0 then 2 else 0) = _
    rw [h20]; rfl
section
variable {prog : Program} {w : World} {A : Around} {E : Value → Shared → Prop} {s : Shared} {Q : Value → Shared → Prop} {a b c : UInt64} {t u x : Tok}
theorem max3F (hh : A.handled = none) (h : ∀ h' tk t, (∀ c o, s.heap.get? c = some o → h'.get? c = some o) → Q (.float (fmax3 a b c) t) { s with heap := h', toks := tk }) :
    wpAny (model prog w) A (call (.builtin "max") [.float a t, .float b u, .float c x]) Q E s := by
  have hT : (s.heap.push { cls := .type "tuple", data := .seq #[.float a t, .float b u, .float c x] }).IsTuple s.heap.objs.size #[.float a t, .float b u, .float c x] := ⟨_, Heap.get?_push_size _ rfl, rfl, 0, rfl⟩
  refine call_max_three (wpAny_pyIter_tuple hT ?_)
  have hsz : (s.heap.push { cls := .type "tuple", data := .seq #[.float a t, .float b u, .float c x] }).objs.size = s.heap.objs.size + 1 := Heap.size_push ..
  refine ⟨_, [_, s.heap.objs.size], [_], _, _, _, _, rfl, Walks.tuple (A := A.in1) hh _ s.heap.objs.size (by rw [hsz]; exact Nat.ne_of_lt (Nat.lt_succ_self _)) #[.float a t, .float b u, .float c x],
    ⟨⟨_, Heap.get?_push_size _ rfl, rfl, rfl⟩, hT.push _⟩, fun c hc => ?_, by simp, cmpOf_gt #[.float a t, .float b u, .float c x] (by simp [NumV.float]), fun v h' tk hP hk => ?_⟩
  · show c < ((s.heap.push _).push _).objs.size
    rw [Heap.size_push, hsz]
    rcases List.mem_cons.mp hc with rfl | hc
    · rw [hsz]; exact Nat.lt_succ_self _
    · rcases List.mem_cons.mp hc with rfl | hc
      · exact Nat.lt_succ_of_lt (Nat.lt_succ_self _)
      · cases hc
  · have hold : ∀ c o, s.heap.get? c = some o → h'.get? c = some o := fun c o e => by
      refine hk c o (fun hm => ?_) (Heap.get?_push_of_some _ (Heap.get?_push_of_some _ e))
      rcases List.mem_cons.mp hm with e1 | hm
      · have := Heap.lt_size e; rw [e1, hsz] at this; exact Nat.lt_irrefl _ (Nat.lt_of_succ_lt this)
      · cases hm
    have hv : ∃ t, v = .float (fmax3 a b c) t := by
      have i := best3 (bt := fun i j => ltV ((#[Value.float a t, Value.float b u, Value.float c x]).getD j Value.none) ((#[Value.float a t, Value.float b u, Value.float c x]).getD i Value.none)) (p := ltF a b) (q := ltF a c) (r := ltF b c) rfl rfl rfl
      have hP' := (congrArg (fun i => (#[Value.float a t, Value.float b u, Value.float c x])[i]?) i).symm.trans hP
      clear i hP
      unfold fmax3
      cases h1 : ltF a b with
      | true =>
        rw [h1] at hP'
        cases h2 : ltF b c with
        | true => rw [h2] at hP'; exact ⟨x, (Option.some.inj hP').symm.trans (congrArg (fun y => Value.float y x) (if_pos h2).symm)⟩
        | false => rw [h2] at hP'; exact ⟨u, (Option.some.inj hP').symm.trans (congrArg (fun y => Value.float y u) (if_neg (fun e => Bool.noConfusion (h2.symm.trans e))).symm)⟩
      | false =>
        rw [h1] at hP'
        cases h2 : ltF a c with
        | true => rw [h2] at hP'; exact ⟨x, (Option.some.inj hP').symm.trans (congrArg (fun y => Value.float y x) (if_pos h2).symm)⟩
        | false => rw [h2] at hP'; exact ⟨t, (Option.some.inj hP').symm.trans (congrArg (fun y => Value.float y t) (if_neg (fun e => Bool.noConfusion (h2.symm.trans e))).symm)⟩
    obtain ⟨t, rfl⟩ := hv
    exact h h' tk t hold
theorem min3F (hh : A.handled = none) (h : ∀ h' tk t, (∀ c o, s.heap.get? c = some o → h'.get? c = some o) → Q (.float (fmin3 a b c) t) { s with heap := h', toks := tk }) :
    wpAny (model prog w) A (call (.builtin "min") [.float a t, .float b u, .float c x]) Q E s := by
  have hT : (s.heap.push { cls := .type "tuple", data := .seq #[.float a t, .float b u, .float c x] }).IsTuple s.heap.objs.size #[.float a t, .float b u, .float c x] := ⟨_, Heap.get?_push_size _ rfl, rfl, 0, rfl⟩
  refine call_min_three (wpAny_pyIter_tuple hT ?_)
  have hsz : (s.heap.push { cls := .type "tuple", data := .seq #[.float a t, .float b u, .float c x] }).objs.size = s.heap.objs.size + 1 := Heap.size_push ..
  refine ⟨_, [_, s.heap.objs.size], [_], _, _, _, _, rfl, Walks.tuple (A := A.in1) hh _ s.heap.objs.size (by rw [hsz]; exact Nat.ne_of_lt (Nat.lt_succ_self _)) #[.float a t, .float b u, .float c x],
    ⟨⟨_, Heap.get?_push_size _ rfl, rfl, rfl⟩, hT.push _⟩, fun c hc => ?_, by simp, cmpOf_lt #[.float a t, .float b u, .float c x] (by simp [NumV.float]), fun v h' tk hP hk => ?_⟩
  · show c < ((s.heap.push _).push _).objs.size
    rw [Heap.size_push, hsz]
    rcases List.mem_cons.mp hc with rfl | hc
    · rw [hsz]; exact Nat.lt_succ_self _
    · rcases List.mem_cons.mp hc with rfl | hc
      · exact Nat.lt_succ_of_lt (Nat.lt_succ_self _)
      · cases hc
  · have hold : ∀ c o, s.heap.get? c = some o → h'.get? c = some o := fun c o e => by
      refine hk c o (fun hm => ?_) (Heap.get?_push_of_some _ (Heap.get?_push_of_some _ e))
      rcases List.mem_cons.mp hm with e1 | hm
      · have := Heap.lt_size e; rw [e1, hsz] at this; exact Nat.lt_irrefl _ (Nat.lt_of_succ_lt this)
      · cases hm
    have hv : ∃ t, v = .float (fmin3 a b c) t := by
      have i := best3 (bt := fun i j => ltV ((#[Value.float a t, Value.float b u, Value.float c x]).getD i Value.none) ((#[Value.float a t, Value.float b u, Value.float c x]).getD j Value.none)) (p := ltF b a) (q := ltF c a) (r := ltF c b) rfl rfl rfl
      have hP' := (congrArg (fun i => (#[Value.float a t, Value.float b u, Value.float c x])[i]?) i).symm.trans hP
      clear i hP
      unfold fmin3
      cases h1 : ltF b a with
      | true =>
        rw [h1] at hP'
        cases h2 : ltF c b with
        | true => rw [h2] at hP'; exact ⟨x, (Option.some.inj hP').symm.trans (congrArg (fun y => Value.float y x) (if_pos h2).symm)⟩
        | false => rw [h2] at hP'; exact ⟨u, (Option.some.inj hP').symm.trans (congrArg (fun y => Value.float y u) (if_neg (fun e => Bool.noConfusion (h2.symm.trans e))).symm)⟩
      | false =>
        rw [h1] at hP'
        cases h2 : ltF c a with
        | true => rw [h2] at hP'; exact ⟨x, (Option.some.inj hP').symm.trans (congrArg (fun y => Value.float y x) (if_pos h2).symm)⟩
        | false => rw [h2] at hP'; exact ⟨t, (Option.some.inj hP').symm.trans (congrArg (fun y => Value.float y t) (if_neg (fun e => Bool.noConfusion (h2.symm.trans e))).symm)⟩
    obtain ⟨t, rfl⟩ := hv
    exact h h' tk t hold
variable {h₀ : Heap} {L : Addr} {m : Str → Option Value} {news : List (Addr × Obj)}
theorem m_max3 (F : Fr h₀ L s.heap m) (N : News h₀ L s.heap news) (hh : A.handled = none) (h : ∀ h' tk t, Fr h₀ L h' m → News h₀ L h' news → Q (.float (fmax3 a b c) t) { s with heap := h', toks := tk }) :
    wpAny (model prog w) A (call (.builtin "max") [.float a t, .float b u, .float c x]) Q E s :=
  max3F hh fun h' tk t hk => h h' tk t (F.after hk) fun p hp => ⟨hk _ _ (N p hp).1, (N p hp).2⟩
theorem m_min3 (F : Fr h₀ L s.heap m) (N : News h₀ L s.heap news) (hh : A.handled = none) (h : ∀ h' tk t, Fr h₀ L h' m → News h₀ L h' news → Q (.float (fmin3 a b c) t) { s with heap := h', toks := tk }) :
    wpAny (model prog w) A (call (.builtin "min") [.float a t, .float b u, .float c x]) Q E s :=
  min3F hh fun h' tk t hk => h h' tk t (F.after hk) fun p hp => ⟨hk _ _ (N p hp).1, (N p hp).2⟩
end
section
variable {prog : Program} {w : World} {A : Around} {E : Value → Shared → Prop} {s : Shared} {Q : Value → Shared → Prop} {a b : UInt64} {n k : Int} {t u : Tok}
theorem fits_of {x : Nat} (h : x < 1000000) : x < 2 ^ 1023 := Nat.lt_of_lt_of_le (Nat.lt_trans h (show 1000000 < 2 ^ 20 by decide)) (Nat.pow_le_pow_right (by decide) (by decide))
theorem m_divF (hA : A.handled = none) (hz : Float64.isZero b = false) (h : ∀ t tk, Q (.float (Float64.div a b) t) { s with toks := tk }) : wpAny (model prog w) A (binaryOp .Div (.float a t) (.float b u)) Q E s :=
  truediv_float_or hA (fun q => by rw [hz] at q; cases q) fun _ => h _ _
theorem m_modF (hA : A.handled = none) (hz : Float64.isZero b = false) (h : ∀ t tk, Q (.float (Float64.divmod a b).2 t) { s with toks := tk }) : wpAny (model prog w) A (binaryOp .Mod (.float a t) (.float b u)) Q E s :=
  mod_ff hA (fun q => by rw [hz] at q; cases q) fun _ => h _ _
theorem m_addF (h : ∀ t tk, Q (.float (Float64.add a b) t) { s with toks := tk }) : wpAny (model prog w) A (binaryOp .Add (.float a t) (.float b u)) Q E s := add_float (h _ _)
theorem m_subF (h : ∀ t tk, Q (.float (Float64.sub a b) t) { s with toks := tk }) : wpAny (model prog w) A (binaryOp .Sub (.float a t) (.float b u)) Q E s := sub_float (h _ _)
theorem m_mulIF (hn : n.natAbs < 1000000) (h : ∀ t tk, Q (.float (Float64.mul (Float64.ofInt n) a) t) { s with toks := tk }) : wpAny (model prog w) A (binaryOp .Mult (.int n u) (.float a t)) Q E s :=
  mul_if_fits (fits_of hn) (h _ _)
theorem m_mulFI (hn : n.natAbs < 1000000) (h : ∀ t tk, Q (.float (Float64.mul a (Float64.ofInt n)) t) { s with toks := tk }) : wpAny (model prog w) A (binaryOp .Mult (.float a t) (.int n u)) Q E s :=
  mul_fi_fits (fits_of hn) (h _ _)
end
/-- k sixteenths -/
noncomputable def F16 (k : Nat) : UInt64 := Float64.ofFrac false k 16
section
variable {prog : Program} {w : World} {A : Around} {E : Value → Shared → Prop} {s : Shared} {Q : Value → Shared → Prop} {n : Int} {t u : Tok}
theorem m_div16 (hA : A.handled = none) (h0 : 0 ≤ n) (h1 : n < 1000) (h : ∀ t tk, Q (.float (F16 n.toNat) t) { s with toks := tk }) : wpAny (model prog w) A (binaryOp .Div (.int n t) (.int 16 u)) Q E s := by
  refine div_ii_fits hA (fits_of (show n.natAbs < 1000000 by omega)) (fun q => by cases q) fun _ _ => ?_
  have e : Float64.ofFrac (decide (n < 0) != decide ((16 : Int) < 0)) n.natAbs (Int.natAbs 16) = F16 n.toNat := by
    unfold F16
    rw [show decide (n < 0) = false by simp; omega, show n.natAbs = n.toNat by omega]
    rfl
  rw [e]
  exact h _ _
end
noncomputable def feq (a b : UInt64) : Bool := Float64.cmp a b == some .eq
noncomputable def f0 : UInt64 := 0
noncomputable def f1 : UInt64 := 0x3ff0000000000000
noncomputable def f2 : UInt64 := 0x4000000000000000
noncomputable def f4 : UInt64 := 0x4010000000000000
noncomputable def f6 : UInt64 := 0x4018000000000000
noncomputable def fhalf : UInt64 := 0x3fe0000000000000
/-- the hue, its parts' greatest and least given -/
noncomputable def hueM (r g b M m : UInt64) : UInt64 :=
  (Float64.divmod (Float64.div (if feq r M then Float64.sub (Float64.div (Float64.sub M b) (Float64.sub M m)) (Float64.div (Float64.sub M g) (Float64.sub M m))
    else if feq g M then Float64.sub (Float64.add f2 (Float64.div (Float64.sub M r) (Float64.sub M m))) (Float64.div (Float64.sub M b) (Float64.sub M m))
    else Float64.sub (Float64.add f4 (Float64.div (Float64.sub M g) (Float64.sub M m))) (Float64.div (Float64.sub M r) (Float64.sub M m))) f6) f1).2
noncomputable def hueP (r g b M m : UInt64) : UInt64 := if feq m M then f0 else hueM r g b M m
theorem hueP_0 {r g b M m : UInt64} (hq : feq m M = true) : hueP r g b M m = f0 := by unfold hueP; rw [if_pos hq]
theorem hueP_1 {r g b M m : UInt64} (hq : feq m M = false) (h1 : feq r M = true) : hueP r g b M m = (Float64.divmod (Float64.div (Float64.sub (Float64.div (Float64.sub M b) (Float64.sub M m)) (Float64.div (Float64.sub M g) (Float64.sub M m))) f6) f1).2 := by
  unfold hueP hueM; rw [if_neg (by rw [hq]; exact Bool.false_ne_true), if_pos h1]
theorem hueP_2 {r g b M m : UInt64} (hq : feq m M = false) (h1 : feq r M = false) (h2 : feq g M = true) : hueP r g b M m = (Float64.divmod (Float64.div (Float64.sub (Float64.add f2 (Float64.div (Float64.sub M r) (Float64.sub M m))) (Float64.div (Float64.sub M b) (Float64.sub M m))) f6) f1).2 := by
  unfold hueP hueM; rw [if_neg (by rw [hq]; exact Bool.false_ne_true), if_neg (by rw [h1]; exact Bool.false_ne_true), if_pos h2]
theorem hueP_3 {r g b M m : UInt64} (hq : feq m M = false) (h1 : feq r M = false) (h2 : feq g M = false) : hueP r g b M m = (Float64.divmod (Float64.div (Float64.sub (Float64.add f4 (Float64.div (Float64.sub M g) (Float64.sub M m))) (Float64.div (Float64.sub M r) (Float64.sub M m))) f6) f1).2 := by
  unfold hueP hueM; rw [if_neg (by rw [hq]; exact Bool.false_ne_true), if_neg (by rw [h1]; exact Bool.false_ne_true), if_neg (by rw [h2]; exact Bool.false_ne_true)]
end Mine
-- part Comp
open PyProof.Rows.LCg (NsObj ns_obj lst lst_snoc)
set_option maxRecDepth 100000
namespace Mine
section
variable {prog : Program} {w : World} {A : Around} {E : Value → Shared → Prop} {s : Shared} {h₀ : Heap} {L : Addr} {m : Str → Option Value} {env : Env}

/-- off a block's three own objects -/
abbrev Off (I C D : Addr) (l : List (Addr × Obj)) : Prop := ∀ p ∈ l, p.1 ≠ I ∧ p.1 ≠ C ∧ p.1 ≠ D
/-- what a turn of a block leaves -/
noncomputable def CEnd (h₀ : Heap) (L : Addr) (m : Str → Option Value) (I : Addr) (oI : Obj) (C D : Addr) (S : List (Addr × Obj) → Prop) (J : List Value → List (Addr × Obj) → Prop) (s₂ : Shared) (ys acc : List Value) (s' : Shared) : Prop :=
  ∃ h' tk oC' m' news', s' = { s₂ with heap := h', toks := tk } ∧ NsObj oC' m' ∧ Fr h₀ L h' m ∧ News h₀ L h' ((I, oI) :: (C, oC') :: (D, lst acc) :: news') ∧ Off I C D news' ∧ S news' ∧ J ys news'
noncomputable abbrev testsOf (tests : List PySem.Expr) (cenv : Env) : Sem Bool := forIn tests true fun c r => if r = true then do let ok ← isTrue c cenv (eval c cenv); pure (ForInStep.yield ok) else pure (ForInStep.yield r)
/-- one turn of a block -/
noncomputable def CTurn (prog : Program) (w : World) (A : Around) (h₀ : Heap) (L : Addr) (m : Str → Option Value) (elt : PySem.Expr) (tests : List PySem.Expr) (x : Str) (px : Pos) (cenvOf : Addr → Env) (n : Nat) (P : Nat → Value → Prop) (S : List (Addr × Obj) → Prop)
    (J : Addr → Nat → List Value → List (Addr × Obj) → Prop) (s₂ : Shared) : Prop :=
  ∀ i v I oI C oC D m₂ ys news' h tk (E' : Value → Shared → Prop), i < n → P i v → J C i ys news' → NsObj oC m₂ → Fr h₀ L h m → News h₀ L h ((I, oI) :: (C, oC) :: (D, lst ys) :: news') → Off I C D news' → (I ≠ C ∧ I ≠ D ∧ C ≠ D) → S news' →
    wpAny (model prog w) A (assign (.Name x px) (cenvOf C) v) (fun _ s₃ => wpAny (model prog w) A (testsOf tests (cenvOf C)) (fun ok s₄ =>
      if ok = true then wpAny (model prog w) A (eval elt (cenvOf C)) (fun y s₅ => CEnd h₀ L m I oI C D S (J C (i + 1)) s₂ (ys ++ [y]) ys s₅) E' s₄ else CEnd h₀ L m I oI C D S (J C (i + 1)) s₂ ys ys s₄) E' s₃) E' { s₂ with heap := h, toks := tk }

theorem cblock {elt iter : PySem.Expr} {tests : List PySem.Expr} {x : Str} {px : Pos} {scope : Scope} {cl : List (Str × Addr)} {pos : Pos} {s₂ : Shared} {I : Addr} {fp : List Addr} {n : Nat} {P : Nat → Value → Prop} {St : Nat → Heap → Prop} {S : List (Addr × Obj) → Prop} {news : List (Addr × Obj)}
    {clf : Addr → List (Str × Addr)} {cs : Addr → List (Addr × Obj)} (J : Addr → Nat → List Value → List (Addr × Obj) → Prop) {RR : Value → Addr → Result → Shared → Prop}
    (W : Walks prog w A I fp [I] n P St) (hsz : n ≤ sizeLine) (hIo : ∀ i h, St i h → ∃ o, h.get? I = some o)
    (hSt : ∀ i h h' o nw, St i h → h.get? I = some o → h'.get? I = some o → News h₀ L h' nw → S nw → St i h')
    (hEnv : ∀ (H : Shared) (Q : Env → Shared → Prop), (∀ h₁ tk, h₁.Ns H.heap.objs.size (fun _ => none) → (∀ b o, H.heap.get? b = some o → h₁.get? b = some o) → (∀ p ∈ cs H.heap.objs.size, h₁.get? p.1 = some p.2) →
      Q (newEnv scope H.heap.objs.size env.globals (clf H.heap.objs.size) env.qual none .none (some env) builtinsNs) { H with heap := h₁, toks := tk }) →
      wpAny (model prog w) A (newFunctionEnv scope env.globals cl [] env.qual none .none (some env)) Q E H)
    (hcs : ∀ C, ∀ p ∈ cs C, C < p.1) (hSm : ∀ C, S (cs C ++ news)) (hst : St 0 s₂.heap) (hfp : ∀ b ∈ fp, b < s₂.heap.objs.size)
    (F : Fr h₀ L s₂.heap m) (N : News h₀ L s₂.heap news) (hIL : L ≠ I) (hI₀ : h₀.get? I = none) (off : ∀ p ∈ news, p.1 ≠ I) (hJ : ∀ C, (∀ p ∈ news, p.1 < C) → J C 0 [] (cs C ++ news)) (hJl : ∀ C i ys nw, J C i ys nw → ys.length ≤ i)
    (turn : CTurn prog w A h₀ L m elt tests x px (fun C => compEnvC scope (clf C) C env) n P S J s₂)
    (hRR : ∀ D C h tk m' ys news', Fr h₀ L h m → News h₀ L h ((D, lst ys) :: news') → (∀ p ∈ news', p.1 ≠ D) → h.Ns C m' → h₀.get? C = none → h₀.get? D = none → C ≠ L → D ≠ L → C ≠ D → (∀ p ∈ news', p.1 ≠ C) → J C n ys news' → RR (.ref D) C (.ok .next) { s₂ with heap := h, toks := tk }) :
    wpAny (model prog w) A (newList []) (fun acc s₃ => wpAny (model prog w) A (newFunctionEnv scope env.globals cl [] env.qual none .none (some env)) (fun cenv s₄ =>
      codeAny (model prog w) A (.compStart (.ListComp elt [⟨.Name x px, iter, tests, 0⟩] scope pos) 0 (.ref I) acc { cenv with scope := relabel scope env }) (RR acc cenv.locals) s₄) E s₃) E s₂ := by
  refine wpAny_newObj_type (hEnv _ _ fun h₁ tk₁ hns₁ hk₁ hcs₁ => ?_)
  dsimp only at hns₁ hk₁ hcs₁ ⊢
  generalize hH2 : s₂.heap.push { cls := .type "list", dict := none, data := .seq ([] : List Value).toArray } = H2 at hns₁ hk₁ hcs₁ ⊢
  have hC : H2.objs.size = s₂.heap.objs.size + 1 := by rw [← hH2, Heap.size_push]
  generalize hCe : H2.objs.size = C at hns₁ hcs₁ hC ⊢
  have hDC : s₂.heap.objs.size ≠ C := by omega
  have below : ∀ b, b < s₂.heap.objs.size → b ≠ C ∧ b ≠ s₂.heap.objs.size := fun b hb => ⟨by omega, by omega⟩
  have hIf : I ∈ fp := W.sub I (List.mem_singleton.mpr rfl)
  have hIlt : I < s₂.heap.objs.size := hfp I hIf
  have old : ∀ b o, s₂.heap.get? b = some o → h₁.get? b = some o := fun b o e => hk₁ b o (hH2 ▸ Heap.get?_push_of_some _ e)
  have hacc : h₁.get? s₂.heap.objs.size = some (lst []) := hk₁ _ _ (hH2 ▸ Heap.get?_push_size _ rfl)
  have hst₁ : St 0 h₁ := W.frame _ _ _ hst fun b _ o e => old b o e
  have fresh₀ : ∀ a, s₂.heap.objs.size ≤ a → h₀.get? a = none := fun a ha => by
    cases e : h₀.get? a with
    | none => rfl
    | some o' => exact absurd (Heap.lt_size (F.keep a o' e)) (Nat.not_lt.mpr ha)
  have hLlt : L < s₂.heap.objs.size := F.ns.lt
  have hDL : s₂.heap.objs.size ≠ L := Ne.symm (below L hLlt).2
  have hCL : C ≠ L := Ne.symm (below L hLlt).1
  have hCI : I ≠ C := (below I hIlt).1
  have hDI : I ≠ s₂.heap.objs.size := (below I hIlt).2
  have hD₀ := fresh₀ s₂.heap.objs.size (Nat.le_refl _)
  have hC₀ := fresh₀ C (by omega)
  have off₀ : Off I C s₂.heap.objs.size (cs C ++ news) := fun p hp => by
    rcases List.mem_append.mp hp with hp | hp
    · have h1 : s₂.heap.objs.size < p.1 := Nat.lt_trans (by rw [hC]; exact Nat.lt_succ_self _) (hcs C p hp)
      exact ⟨Nat.ne_of_gt (Nat.lt_trans hIlt h1), Nat.ne_of_gt (hcs C p hp), Nat.ne_of_gt h1⟩
    · exact ⟨off p hp, (below _ (Heap.lt_size (N p hp).1)).1, (below _ (Heap.lt_size (N p hp).1)).2⟩
  have N₁ : News h₀ L h₁ (cs C ++ news) := fun p hp => by
    rcases List.mem_append.mp hp with hp | hp
    · have h1 : s₂.heap.objs.size < p.1 := Nat.lt_trans (by rw [hC]; exact Nat.lt_succ_self _) (hcs C p hp)
      exact ⟨hcs₁ p hp, Nat.ne_of_gt (Nat.lt_trans hLlt h1), fresh₀ _ (Nat.le_of_lt h1)⟩
    · exact ⟨old _ _ (N p hp).1, (N p hp).2⟩
  have loop : ∀ s₃ : Shared, s₃ = { s₂ with heap := h₁, toks := tk₁ } →
      codeAny (model prog w) A (.compLoop (.ListComp elt [⟨.Name x px, iter, tests, 0⟩] scope pos) 0 (.ref I) (.ref s₂.heap.objs.size) (compEnvC scope (clf C) C env)) (RR (.ref s₂.heap.objs.size) C) s₃ := by
    rintro s₃ rfl
    refine codeAny_compLoop_tests
      (fun k s' => ∃ h' tk i ys m' news', s' = { s₂ with heap := h', toks := tk } ∧ i ≤ n ∧ k = n + 1 - i ∧ St i h' ∧ Fr h₀ L h' m ∧ h'.Ns C m' ∧ News h₀ L h' ((s₂.heap.objs.size, lst ys) :: news') ∧
        Off I C s₂.heap.objs.size news' ∧ S news' ∧ J C i ys news') ?_ (n + 1)
      ⟨h₁, _, 0, [], _, cs C ++ news, rfl, Nat.zero_le _, rfl, hst₁, F.keeps old, hns₁, fun p hp => ?_, off₀, hSm C, hJ C fun p hp => Nat.lt_trans (Heap.lt_size (N p hp).1) (by rw [hC]; exact Nat.lt_succ_self _)⟩
    · rintro k s' ⟨h', tk, i, ys, m', news', rfl, hi, rfl, hst', F', hn', N', off', hS', hJ'⟩
      by_cases hlt : i < n
      · refine W.item i _ _ _ hlt hst' fun v h₂ tk₂ hPv hst₂ hk₂ => ?_
        obtain ⟨oI, heI⟩ := hIo _ _ hst₂
        obtain ⟨oC, heC, hoC⟩ := ns_obj (hn'.at' fun o e => hk₂ _ o (by simpa using Ne.symm hCI) e)
        have F₂ : Fr h₀ L h₂ m := LCg.fr_but F' hk₂ hIL hI₀
        have N₂ : News h₀ L h₂ ((I, oI) :: (C, oC) :: (s₂.heap.objs.size, lst ys) :: news') := fun p hp => by
          rcases List.mem_cons.mp hp with rfl | hp
          · exact ⟨heI, Ne.symm hIL, hI₀⟩
          · rcases List.mem_cons.mp hp with rfl | hp
            · exact ⟨heC, hCL, hC₀⟩
            · have z := N' p hp
              refine ⟨hk₂ _ _ ?_ z.1, z.2⟩
              rw [List.mem_singleton]
              rcases List.mem_cons.mp hp with rfl | hp
              · exact Ne.symm hDI
              · exact (off' p hp).1
        have hyl := hJl _ _ _ _ hJ'
        have fin : ∀ ys' acc s₄, (acc = ys) → CEnd h₀ L m I oI C s₂.heap.objs.size S (J C (i + 1)) s₂ ys' acc s₄ → ∃ h₄ tk₄ m₄ news₄, s₄ = { s₂ with heap := h₄, toks := tk₄ } ∧ St (i + 1) h₄ ∧ Fr h₀ L h₄ m ∧ h₄.Ns C m₄ ∧ News h₀ L h₄ ((s₂.heap.objs.size, lst ys) :: news₄) ∧ Off I C s₂.heap.objs.size news₄ ∧ S news₄ ∧ J C (i + 1) ys' news₄ := by
          rintro ys' acc s₄ rfl ⟨h₄, tk₄, oC₄, m₄, news₄, rfl, hoC₄, F₄, N₄, off₄, hS₄, hJ₄⟩
          have zI := (N₄ (I, oI) (.head _)).1
          have zC := (N₄ (C, oC₄) (.tail _ (.head _))).1
          have N₄' : News h₀ L h₄ news₄ := fun p hp => N₄ p (.tail _ (.tail _ (.tail _ hp)))
          exact ⟨h₄, tk₄, m₄, news₄, rfl, hSt _ _ _ _ _ hst₂ heI zI N₄' hS₄, F₄, hoC₄.ns zC, (fun p hp => N₄ p (.tail _ (.tail _ hp))), off₄, hS₄, hJ₄⟩
        refine wpAny_mono (turn i v I oI C oC s₂.heap.objs.size _ ys news' h₂ _ _ hlt hPv hJ' hoC F₂ N₂ off' ⟨hCI, hDI, Ne.symm hDC⟩ hS') (fun _ s₃ q₃ => wpAny_mono q₃ (fun ok s₄ q₄ => ?_) fun _ _ e => e) fun _ _ e => e
        cases ok with
        | false =>
          rw [if_neg (by simp)] at q₄ ⊢
          obtain ⟨h₄, tk₄, m₄, news₄, rfl, k1, k2, k3, k4, k5, k6, k7⟩ := fin _ _ _ rfl q₄
          exact ⟨n + 1 - (i + 1), by omega, h₄, tk₄, i + 1, ys, m₄, news₄, rfl, hlt, rfl, k1, k2, k3, k4, k5, k6, k7⟩
        | true =>
          rw [if_pos rfl] at q₄ ⊢
          refine wpAny_mono q₄ (fun y s₅ q₅ => ?_) fun _ _ e => e
          obtain ⟨h₄, tk₄, m₄, news₄, rfl, k1, k2, k3, k4, k5, k6, k7⟩ := fin _ _ _ rfl q₅
          refine append_at (hsz := by show ys.toArray.size ≤ sizeLine; rw [List.size_toArray]; omega) (k4 _ (.head _)).1 fun h₅ hs₅ hD₅ => ?_
          refine ⟨n + 1 - (i + 1), by omega, h₅, tk₄, i + 1, ys ++ [y], m₄, news₄, rfl, hlt, rfl, W.frame _ _ _ k1 fun b hb o e => hs₅.extBut b o (fun q => ?_) e, k2.change hs₅ hDL hD₀, k3.sameBut hs₅ (Ne.symm hDC), fun p hp => ?_, k5, k6, k7⟩
          · exact Nat.lt_irrefl _ (q ▸ hfp b hb)
          · rcases List.mem_cons.mp hp with rfl | hp
            · exact ⟨hD₅.trans (congrArg some (lst_snoc ys y)), hDL, hD₀⟩
            · exact ⟨hs₅.extBut _ _ (k5 p hp).2.2 (k4 p (.tail _ hp)).1, (k4 p (.tail _ hp)).2⟩
      · obtain rfl : i = n := Nat.le_antisymm hi (Nat.not_lt.mp hlt)
        refine W.done _ _ _ hst' fun h₂ tk₂ hk₂ => ?_
        refine hRR _ _ h₂ tk₂ _ ys news' (LCg.fr_but F' hk₂ hIL hI₀) (LCg.news_but N' hk₂ fun p hp => ?_) (fun p hp => (off' p hp).2.2) (hn'.at' fun o e => hk₂ _ o (by simpa using Ne.symm hCI) e) hC₀ hD₀ hCL hDL (Ne.symm hDC) (fun p hp => (off' p hp).2.1) hJ'
        rcases List.mem_cons.mp hp with rfl | hp
        · exact Ne.symm hDI
        · exact (off' p hp).1
    · rcases List.mem_cons.mp hp with rfl | hp
      · exact ⟨hacc, hDL, hD₀⟩
      · exact N₁ p hp
  exact codeAny_compStart_list (loop _ rfl) (W.self 0 _ _ _ hst₁ (loop _ rfl))
end
end Mine
namespace Mine
section
variable {prog : Program} {w : World} {A : Around} {E : Value → Shared → Prop} {s : Shared} {h₀ : Heap} {L : Addr} {m : Str → Option Value} {env : Env}
theorem env_none {scope : Scope} {cl : List (Str × Addr)} (hcell : ∀ y ∈ scope.names, y.2 ≠ .cell) (hkind : scope.kind = .function) (H : Shared) (Q : Env → Shared → Prop)
    (h : ∀ h₁ tk, h₁.Ns H.heap.objs.size (fun _ => none) → (∀ b o, H.heap.get? b = some o → h₁.get? b = some o) → (∀ p ∈ ([] : List (Addr × Obj)), h₁.get? p.1 = some p.2) →
      Q (newEnv scope H.heap.objs.size env.globals cl env.qual none .none (some env) builtinsNs) { H with heap := h₁, toks := tk }) :
    wpAny (model prog w) A (newFunctionEnv scope env.globals cl [] env.qual none .none (some env)) Q E H :=
  wpAny_newFunctionEnv hcell (by intro y hy; simp at hy) (fun h₁ hns₁ hsb₁ => h h₁ _ hns₁ (fun b o e => hsb₁.extBut b o (Nat.ne_of_lt (Heap.lt_size e)) (Heap.get?_push_of_some _ e)) (List.forall_mem_nil _)) hkind
noncomputable def cellNone : Obj := { cls := .type "cell", data := .cell none }
theorem env_one {scope : Scope} {cl : List (Str × Addr)} {a y z : Str} (hn : scope.names = [(a, .local), (y, .cell), (z, .free)]) (H : Shared) (Q : Env → Shared → Prop)
    (h : ∀ h₁ tk, h₁.Ns H.heap.objs.size (fun _ => none) → (∀ b o, H.heap.get? b = some o → h₁.get? b = some o) → (∀ p ∈ ([(H.heap.objs.size + 1, cellNone)] : List (Addr × Obj)), h₁.get? p.1 = some p.2) →
      Q (newEnv scope H.heap.objs.size env.globals ((y, H.heap.objs.size + 1) :: cl) env.qual none .none (some env) builtinsNs) { H with heap := h₁, toks := tk }) :
    wpAny (model prog w) A (newFunctionEnv scope env.globals cl [] env.qual none .none (some env)) Q E H := by
  simp only [newFunctionEnv, Option.isSome_some, if_true]
  refine wpAny_bind (wpAny_alloc ?_)
  rw [hn]
  simp only [List.forIn_cons, List.forIn_nil, show (NameKind.local == NameKind.cell) = false from rfl, show (NameKind.cell == NameKind.cell) = true from rfl, show (NameKind.free == NameKind.cell) = false from rfl, Bool.false_eq_true, if_false, if_true]
  refine wpAny_bind (wpAny_bind (wpAny_pure ?_))
  refine wpAny_bind (wpAny_bind (wpAny_alloc (wpAny_pure ?_)))
  refine wpAny_bind (wpAny_pure ?_)
  refine wpAny_pure ?_
  refine wpAny_bind (wpAny_pure (wpAny_pure ?_))
  have e : (H.heap.push { cls := .type "dict", data := .dict #[] }).objs.size = H.heap.objs.size + 1 := Heap.size_push ..
  have e2 := h ((H.heap.push { cls := .type "dict", data := .dict #[] }).push cellNone) H.toks (((Heap.Ns.new H.heap (.type "dict")).at' fun o e => Heap.get?_push_of_some _ e)) (fun b o e => Heap.get?_push_of_some _ (Heap.get?_push_of_some _ e)) (fun p hp => by
    rw [List.mem_singleton.mp hp, ← e]; exact Heap.get?_push_size _ rfl)
  rw [← e] at e2
  exact e2
end
end Mine
namespace Mine
section
variable {prog : Program} {w : World} {A : Around} {E : Value → Shared → Prop} {s : Shared} {h₀ : Heap} {L : Addr} {m : Str → Option Value} {env : Env}
/-- a fresh environment for a block -/
abbrev EnvOK (prog : Program) (w : World) (A : Around) (E : Value → Shared → Prop) (env : Env) (scope : Scope) (cl : List (Str × Addr)) (clf : Addr → List (Str × Addr)) (cs : Addr → List (Addr × Obj)) : Prop :=
  ∀ (H : Shared) (Q : Env → Shared → Prop), (∀ h₁ tk, h₁.Ns H.heap.objs.size (fun _ => none) → (∀ b o, H.heap.get? b = some o → h₁.get? b = some o) → (∀ p ∈ cs H.heap.objs.size, h₁.get? p.1 = some p.2) →
      Q (newEnv scope H.heap.objs.size env.globals (clf H.heap.objs.size) env.qual none .none (some env) builtinsNs) { H with heap := h₁, toks := tk }) →
      wpAny (model prog w) A (newFunctionEnv scope env.globals cl [] env.qual none .none (some env)) Q E H
abbrev ELst (a : Addr) (vs : List Value) (nw : List (Addr × Obj)) : Prop := ∃ k, (a, listOf vs.toArray k) ∈ nw
abbrev ETup (a : Addr) (vs : List Value) (nw : List (Addr × Obj)) : Prop := ∃ k, (a, ({ cls := .type "tuple", data := .seq vs.toArray k } : Obj)) ∈ nw
/-- a block's source and all that is asked of its turns and end -/
noncomputable def LSrc (prog : Program) (w : World) (A : Around) (h₀ : Heap) (L : Addr) (m : Str → Option Value) (env : Env) (elt : PySem.Expr) (tests : List PySem.Expr) (x : Str) (px : Pos) (scope : Scope) (clf : Addr → List (Str × Addr)) (cs : Addr → List (Addr × Obj))
    (Src : Addr → List Value → List (Addr × Obj) → Prop) (Fin : Shared → List Value → List (Addr × Obj) → Prop) (xv : Value) (s₁ : Shared) : Prop :=
  ∃ ax vs news, ∃ J : Addr → Nat → List Value → List (Addr × Obj) → Prop, xv = .ref ax ∧ A.handled = none ∧ Fr h₀ L s₁.heap m ∧ News h₀ L s₁.heap news ∧ Src ax vs news ∧ vs.length ≤ sizeLine ∧ (∀ C, (∀ p ∈ news, p.1 < C) → J C 0 [] (cs C ++ news)) ∧ (∀ C i ys nw, J C i ys nw → ys.length ≤ i) ∧
    CTurn prog w A h₀ L m elt tests x px (fun C => compEnvC scope (clf C) C env) vs.length (fun i v => vs[i]? = some v) (Src ax vs) J s₁ ∧
    (∀ C ys news', J C vs.length ys news' → Fin s₁ ys news')
noncomputable def FinEv (h₀ : Heap) (L : Addr) (m : Str → Option Value) (Q : Value → Shared → Prop) (s : Shared) (ys : List Value) (news : List (Addr × Obj)) : Prop :=
  ∀ D h tk, Fr h₀ L h m → News h₀ L h ((D, lst ys) :: news) → (∀ p ∈ news, p.1 ≠ D) → Q (.ref D) { s with heap := h, toks := tk }
noncomputable def FinAs (h₀ : Heap) (L : Addr) (m : Str → Option Value) (y : Str) (Q : Flow → Shared → Prop) (s : Shared) (ys : List Value) (news : List (Addr × Obj)) : Prop :=
  ∀ D h tk, Fr h₀ L h (fun z => if z = y then some (.ref D) else m z) → News h₀ L h ((D, lst ys) :: news) → (∀ p ∈ news, p.1 ≠ D) → Q .next { s with heap := h, toks := tk }

theorem csrc_list {elt iter : PySem.Expr} {tests : List PySem.Expr} {x : Str} {px : Pos} {scope : Scope} {cl : List (Str × Addr)} {pos : Pos} {clf : Addr → List (Str × Addr)} {cs : Addr → List (Addr × Obj)} {Fin : Shared → List Value → List (Addr × Obj) → Prop} {RR : Value → Addr → Result → Shared → Prop} {xv : Value} {s₁ : Shared}
    (hEnv : EnvOK prog w A E env scope cl clf cs) (hcs : ∀ C, ∀ p ∈ cs C, C < p.1) (h₁ : LSrc prog w A h₀ L m env elt tests x px scope clf cs ELst Fin xv s₁)
    (hRR : ∀ D C h tk m' ys news', Fr h₀ L h m → News h₀ L h ((D, lst ys) :: news') → (∀ p ∈ news', p.1 ≠ D) → h.Ns C m' → h₀.get? C = none → h₀.get? D = none → C ≠ L → D ≠ L → C ≠ D → (∀ p ∈ news', p.1 ≠ C) → Fin s₁ ys news' → RR (.ref D) C (.ok .next) { s₁ with heap := h, toks := tk }) :
    wpAny (model prog w) A (pyIter xv) (fun it s₂ => wpAny (model prog w) A (newList []) (fun acc s₃ => wpAny (model prog w) A (newFunctionEnv scope env.globals cl [] env.qual none .none (some env)) (fun cenv s₄ =>
      codeAny (model prog w) A (.compStart (.ListComp elt [⟨.Name x px, iter, tests, 0⟩] scope pos) 0 it acc { cenv with scope := relabel scope env }) (RR acc cenv.locals) s₄) E s₃) E s₂) E s₁ := by
  obtain ⟨ax, vs, news, J, rfl, hh, F, N, ⟨k, hm⟩, hl, hJ, hJl, turn, fin⟩ := h₁
  have hl1 : s₁.heap.IsList ax vs.toArray := ⟨_, (N _ hm).1, rfl, k, rfl⟩
  have hlt : ax < s₁.heap.objs.size := Heap.lt_size (N _ hm).1
  refine wpAny_pyIter_list hl1 ?_
  have W := Walks.list (prog := prog) (w := w) hh s₁.heap.objs.size ax (Nat.ne_of_lt hlt) vs.toArray
  have hlen : vs.toArray.size = vs.length := by simp
  rw [hlen] at W
  have up : ∀ b o, s₁.heap.get? b = some o → (s₁.heap.push { cls := .type "list_iterator", data := .fields #[.ref ax, .int 0 0] }).get? b = some o := fun b o e => Heap.get?_push_of_some _ e
  refine cblock (S := ELst ax vs) (news := news) J ⟨W.sub, W.frame, fun i s Q E hi st hQ => W.item i s Q E hi st fun v h' tk hP => hQ v h' tk (by simpa using hP), W.done, W.self⟩ hl (fun i h st => by obtain ⟨o, e, _⟩ := st.1; exact ⟨o, e⟩) ?_ hEnv hcs (fun C => ⟨k, List.mem_append_right _ hm⟩) ⟨⟨_, Heap.get?_push_size _ rfl, rfl, rfl⟩, hl1.push _⟩ (fun b hb => ?_)
    (F.keeps up) (N.grown up) (Nat.ne_of_lt F.ns.lt) (next_is_new F) (fun p hp => Nat.ne_of_lt (Heap.lt_size (N p hp).1)) hJ hJl turn ?_
  · rintro i h h' o nw st e e' Nw ⟨k', hk'⟩
    obtain ⟨o', q, r⟩ := st.1
    rw [e] at q; cases q
    exact ⟨⟨o, e', r⟩, ⟨_, (Nw _ hk').1, rfl, k', rfl⟩⟩
  · show b < (s₁.heap.push _).objs.size
    rw [Heap.size_push]
    rcases List.mem_cons.mp hb with rfl | hb
    · exact Nat.lt_succ_self _
    · rw [List.mem_singleton.mp hb]; exact Nat.lt_succ_of_lt hlt
  · intro D C h tk m' ys news' F' N' o1 hn hC₀ hD₀ hCL hDL hCD offC hJe
    exact hRR D C h tk m' ys news' F' N' o1 hn hC₀ hD₀ hCL hDL hCD offC (fin C ys news' hJe)
theorem csrc_tup {elt iter : PySem.Expr} {tests : List PySem.Expr} {x : Str} {px : Pos} {scope : Scope} {cl : List (Str × Addr)} {pos : Pos} {clf : Addr → List (Str × Addr)} {cs : Addr → List (Addr × Obj)} {Fin : Shared → List Value → List (Addr × Obj) → Prop} {RR : Value → Addr → Result → Shared → Prop} {xv : Value} {s₁ : Shared}
    (hEnv : EnvOK prog w A E env scope cl clf cs) (hcs : ∀ C, ∀ p ∈ cs C, C < p.1) (h₁ : LSrc prog w A h₀ L m env elt tests x px scope clf cs ETup Fin xv s₁)
    (hRR : ∀ D C h tk m' ys news', Fr h₀ L h m → News h₀ L h ((D, lst ys) :: news') → (∀ p ∈ news', p.1 ≠ D) → h.Ns C m' → h₀.get? C = none → h₀.get? D = none → C ≠ L → D ≠ L → C ≠ D → (∀ p ∈ news', p.1 ≠ C) → Fin s₁ ys news' → RR (.ref D) C (.ok .next) { s₁ with heap := h, toks := tk }) :
    wpAny (model prog w) A (pyIter xv) (fun it s₂ => wpAny (model prog w) A (newList []) (fun acc s₃ => wpAny (model prog w) A (newFunctionEnv scope env.globals cl [] env.qual none .none (some env)) (fun cenv s₄ =>
      codeAny (model prog w) A (.compStart (.ListComp elt [⟨.Name x px, iter, tests, 0⟩] scope pos) 0 it acc { cenv with scope := relabel scope env }) (RR acc cenv.locals) s₄) E s₃) E s₂) E s₁ := by
  obtain ⟨ax, vs, news, J, rfl, hh, F, N, ⟨k, hm⟩, hl, hJ, hJl, turn, fin⟩ := h₁
  have hl1 : s₁.heap.IsTuple ax vs.toArray := ⟨_, (N _ hm).1, rfl, k, rfl⟩
  have hlt : ax < s₁.heap.objs.size := Heap.lt_size (N _ hm).1
  refine wpAny_pyIter_tuple hl1 ?_
  have W := Walks.tuple (prog := prog) (w := w) hh s₁.heap.objs.size ax (Nat.ne_of_lt hlt) vs.toArray
  have hlen : vs.toArray.size = vs.length := by simp
  rw [hlen] at W
  have up : ∀ b o, s₁.heap.get? b = some o → (s₁.heap.push { cls := .type "tuple_iterator", data := .fields #[.ref ax, .int 0 0] }).get? b = some o := fun b o e => Heap.get?_push_of_some _ e
  refine cblock (S := ETup ax vs) (news := news) J ⟨W.sub, W.frame, fun i s Q E hi st hQ => W.item i s Q E hi st fun v h' tk hP => hQ v h' tk (by simpa using hP), W.done, W.self⟩ hl (fun i h st => by obtain ⟨o, e, _⟩ := st.1; exact ⟨o, e⟩) ?_ hEnv hcs (fun C => ⟨k, List.mem_append_right _ hm⟩) ⟨⟨_, Heap.get?_push_size _ rfl, rfl, rfl⟩, hl1.push _⟩ (fun b hb => ?_)
    (F.keeps up) (N.grown up) (Nat.ne_of_lt F.ns.lt) (next_is_new F) (fun p hp => Nat.ne_of_lt (Heap.lt_size (N p hp).1)) hJ hJl turn ?_
  · rintro i h h' o nw st e e' Nw ⟨k', hk'⟩
    obtain ⟨o', q, r⟩ := st.1
    rw [e] at q; cases q
    exact ⟨⟨o, e', r⟩, ⟨_, (Nw _ hk').1, rfl, k', rfl⟩⟩
  · show b < (s₁.heap.push _).objs.size
    rw [Heap.size_push]
    rcases List.mem_cons.mp hb with rfl | hb
    · exact Nat.lt_succ_self _
    · rw [List.mem_singleton.mp hb]; exact Nat.lt_succ_of_lt hlt
  · intro D C h tk m' ys news' F' N' o1 hn hC₀ hD₀ hCL hDL hCD offC hJe
    exact hRR D C h tk m' ys news' F' N' o1 hn hC₀ hD₀ hCL hDL hCD offC (fin C ys news' hJe)
theorem fin_ev {Q : Value → Shared → Prop} {D C : Addr} {h : Heap} {tk : Nat} {m' : Str → Option Value} {ys : List Value} {news' : List (Addr × Obj)} {s₁ : Shared} (F' : Fr h₀ L h m) (N' : News h₀ L h ((D, lst ys) :: news')) (o1 : ∀ p ∈ news', p.1 ≠ D) (hn : h.Ns C m') (hC₀ : h₀.get? C = none) (hCL : C ≠ L) (hCD : C ≠ D) (offC : ∀ p ∈ news', p.1 ≠ C)
    (fin : FinEv h₀ L m Q s₁ ys news') : compPost (model prog w) A E none Q (.ref D) C (.ok .next) { s₁ with heap := h, toks := tk } := by
  refine ⟨m', hn, fun h'' hs'' => fin D h'' tk (F'.change hs'' hCL hC₀) (fun p hp => ?_) o1⟩
  refine ⟨hs''.extBut _ _ ?_ (N' p hp).1, (N' p hp).2⟩
  rcases List.mem_cons.mp hp with rfl | hp
  · exact Ne.symm hCD
  · exact offC p hp
theorem comp_eval {elt iter : PySem.Expr} {tests : List PySem.Expr} {x : Str} {px : Pos} {scope : Scope} {cl : List (Str × Addr)} {pos : Pos} {clf : Addr → List (Str × Addr)} {cs : Addr → List (Addr × Obj)} {Q : Value → Shared → Prop} (_F₀ : Fr h₀ L s.heap m)
    (hclos : closureFor scope env = pure cl) (hkind : scope.kind = .function) (hnames : ∀ y ∈ scope.names, y.2 = .local → scope.names.lookup y.1 = some .local)
    (hEnv : EnvOK prog w A E env scope cl clf cs) (hcs : ∀ C, ∀ p ∈ cs C, C < p.1)
    (h : wpAny (model prog w) A (eval iter env) (LSrc prog w A h₀ L m env elt tests x px scope clf cs ELst (FinEv h₀ L m Q)) E s)
    (hs : ∀ x, foldedSetIterable iter env x = pure x := by intro _; rfl) :
    wpAny (model prog w) A (eval (.ListComp elt [⟨.Name x px, iter, tests, 0⟩] scope pos) env) Q E s := by
  rw [eval_ListComp]
  refine wpAny_comprehension_free (use := none) rfl hs hclos hkind hnames (wpAny_mono h (fun xv s₁ h₁ => ?_) fun _ _ e => e)
  exact csrc_list hEnv hcs h₁ fun D C h tk m' ys news' F' N' o1 hn hC₀ hD₀ hCL hDL hCD offC fin => fin_ev F' N' o1 hn hC₀ hCL hCD offC fin
theorem comp_evalT {elt iter : PySem.Expr} {tests : List PySem.Expr} {x : Str} {px : Pos} {scope : Scope} {cl : List (Str × Addr)} {pos : Pos} {clf : Addr → List (Str × Addr)} {cs : Addr → List (Addr × Obj)} {Q : Value → Shared → Prop} (_F₀ : Fr h₀ L s.heap m)
    (hclos : closureFor scope env = pure cl) (hkind : scope.kind = .function) (hnames : ∀ y ∈ scope.names, y.2 = .local → scope.names.lookup y.1 = some .local)
    (hEnv : EnvOK prog w A E env scope cl clf cs) (hcs : ∀ C, ∀ p ∈ cs C, C < p.1)
    (h : wpAny (model prog w) A (eval iter env) (LSrc prog w A h₀ L m env elt tests x px scope clf cs ETup (FinEv h₀ L m Q)) E s)
    (hs : ∀ x, foldedSetIterable iter env x = pure x := by intro _; rfl) :
    wpAny (model prog w) A (eval (.ListComp elt [⟨.Name x px, iter, tests, 0⟩] scope pos) env) Q E s := by
  rw [eval_ListComp]
  refine wpAny_comprehension_free (use := none) rfl hs hclos hkind hnames (wpAny_mono h (fun xv s₁ h₁ => ?_) fun _ _ e => e)
  exact csrc_tup hEnv hcs h₁ fun D C h tk m' ys news' F' N' o1 hn hC₀ hD₀ hCL hDL hCD offC fin => fin_ev F' N' o1 hn hC₀ hCL hCD offC fin
theorem comp_assign {elt iter : PySem.Expr} {tests : List PySem.Expr} {x y : Str} {px py : Pos} {scope : Scope} {cl : List (Str × Addr)} {pos spos : Pos} {clf : Addr → List (Str × Addr)} {cs : Addr → List (Addr × Obj)} {Q : Flow → Shared → Prop} (_F₀ : Fr h₀ env.locals s.heap m)
    (hsw : swapsWith (.ListComp elt [⟨.Name x px, iter, tests, 0⟩] scope pos) (some (.Name y py)) spos.line env = pure true)
    (hclos : closureFor scope env = pure cl) (hkind : scope.kind = .function) (hnames : ∀ y ∈ scope.names, y.2 = .local → scope.names.lookup y.1 = some .local)
    (hy : env.kindOf y = some .local) (hp : (env.scope.kind == .class || (env.scope.kind == .module && env.locals != env.globals)) = false)
    (hEnv : EnvOK prog w A E env scope cl clf cs) (hcs : ∀ C, ∀ p ∈ cs C, C < p.1)
    (h : wpAny (model prog w) A (eval iter env) (LSrc prog w A h₀ env.locals m env elt tests x px scope clf cs ELst (FinAs h₀ env.locals m y Q)) E s)
    (hs : ∀ x, foldedSetIterable iter env x = pure x := by intro _; rfl) :
    wpAny (model prog w) A (exec (.Assign [.Name y py] (.ListComp elt [⟨.Name x px, iter, tests, 0⟩] scope pos) spos) env) Q E s := by
  rw [exec_Assign_Name_used _ _ _ _ hsw]
  refine wpAny_bind (wpAny_standAt (wpAny_bind ?_))
  show wpAny _ A (do let _ ← comprehension (.ListComp elt [⟨.Name x px, iter, tests, 0⟩] scope pos) scope env _ (newList []) false (eval iter env) (some (assign (.Name y py) env))) _ _ s
  refine wpAny_bind (wpAny_mono (wpAny_comprehension_free (use := some (assign (.Name y py) env)) (Q := fun _ s' => Q .next s') rfl hs hclos hkind hnames
    (wpAny_mono h (fun xv s₁ h₁ => ?_) fun _ _ e => e)) (fun _ s' hq => wpAny_pure (wpAny_pure hq)) fun _ _ e => e)
  refine csrc_list hEnv hcs h₁ fun D C h tk m' ys news' F' N' o1 hn hC₀ hD₀ hCL hDL hCD offC fin => ?_
  show wpAny _ A (assign (.Name y py) env (.ref D)) _ _ _
  refine wpAny_assign_Name (wpAny_storeName_local hy F'.ns (fun h₂ hn₂ hs₂ => ?_) hp)
  have hL₀ : h₀.get? env.locals = none := Heap.get?_none_of_le F'.above
  have F₂ : Fr h₀ env.locals h₂ (fun z => if z = y then some (.ref D) else m z) := ⟨hn₂, fun b o e => hs₂.extBut b o (fun q => by rw [q, hL₀] at e; cases e) (F'.keep b o e), F'.above⟩
  refine ⟨m', hn.sameBut hs₂ hCL, fun h'' hs'' => fin D h'' _ (F₂.change hs'' hCL hC₀) (fun p hp => ?_) o1⟩
  have z : h₂.get? p.1 = some p.2 := hs₂.extBut _ _ (N' p hp).2.1 (N' p hp).1
  refine ⟨hs''.extBut _ _ ?_ z, (N' p hp).2⟩
  rcases List.mem_cons.mp hp with rfl | hp
  · exact Ne.symm hCD
  · exact offC p hp
/-- a block's own name, stored -/
theorem c_assign {scope : Scope} {cl : List (Str × Addr)} {x : Str} {px : Pos} {v : Value} {I C D : Addr} {oI oC oD : Obj} {m₂ : Str → Option Value} {news : List (Addr × Obj)} {Q : Unit → Shared → Prop}
    (hx : scope.names.lookup x = some .local) (hkind : scope.kind = .function) (hoC : NsObj oC m₂) (F : Fr h₀ L s.heap m) (N : News h₀ L s.heap ((I, oI) :: (C, oC) :: (D, oD) :: news)) (hI : I ≠ C) (hD : C ≠ D) (off : ∀ p ∈ news, p.1 ≠ C)
    (h : ∀ h' tk oC', NsObj oC' (fun z => if z = x then some v else m₂ z) → Fr h₀ L h' m → News h₀ L h' ((I, oI) :: (C, oC') :: (D, oD) :: news) → Q () { s with heap := h', toks := tk }) :
    wpAny (model prog w) A (assign (.Name x px) (compEnvC scope cl C env) v) Q E s := by
  have zC := N (C, oC) (.tail _ (.head _))
  refine wpAny_assign_Name (wpAny_storeName_local (lookup_relabel_local hx) (hoC.ns zC.1) (fun h₃ hn₃ hs₃ => ?_) (by simp [compEnvC, relabel, hkind]))
  obtain ⟨oC', heC, hoC'⟩ := ns_obj hn₃
  refine h h₃ _ oC' hoC' (F.change hs₃ zC.2.1 zC.2.2) fun p hp => ?_
  rcases List.mem_cons.mp hp with rfl | hp
  · exact ⟨hs₃.extBut _ _ hI (N _ (.head _)).1, (N _ (.head _)).2⟩
  rcases List.mem_cons.mp hp with rfl | hp
  · exact ⟨heC, zC.2⟩
  have z := N p (.tail _ (.tail _ hp))
  refine ⟨hs₃.extBut _ _ ?_ z.1, z.2⟩
  rcases List.mem_cons.mp hp with rfl | hp
  · exact Ne.symm hD
  · exact off p hp
/-- a block's own name that a block within reads -/
theorem c_assignC {scope : Scope} {cl : List (Str × Addr)} {x : Str} {px : Pos} {v : Value} {I C D c : Addr} {oI oC oD oc : Obj} {vc : Option Value} {news : List (Addr × Obj)} {Q : Unit → Shared → Prop}
    (hk : (compEnvC scope cl C env).scope.kind = .function) (hx : (compEnvC scope cl C env).kindOf x = some .cell) (hc : cl.lookup x = some c) (F : Fr h₀ L s.heap m) (N : News h₀ L s.heap ((I, oI) :: (C, oC) :: (D, oD) :: (c, oc) :: news)) (hcell : oc.data = .cell vc)
    (hI : I ≠ c) (hC : C ≠ c) (hD : D ≠ c) (off : ∀ p ∈ news, p.1 ≠ c)
    (h : ∀ h' oc', oc'.data = .cell (some v) → Fr h₀ L h' m → News h₀ L h' ((I, oI) :: (C, oC) :: (D, oD) :: (c, oc') :: news) → Q () { s with heap := h' }) :
    wpAny (model prog w) A (assign (.Name x px) (compEnvC scope cl C env) v) Q E s := by
  have zc := N (c, oc) (.tail _ (.tail _ (.tail _ (.head _))))
  refine wpAny_assign_Name (wpAny_storeName_cell (v₀ := vc) hk hx hc ⟨oc, zc.1, hcell⟩ fun h₃ hv₃ hs₃ => ?_)
  obtain ⟨oc', hec, hoc'⟩ := hv₃
  refine h h₃ oc' hoc' (F.change hs₃ zc.2.1 zc.2.2) fun p hp => ?_
  rcases List.mem_cons.mp hp with rfl | hp
  · exact ⟨hs₃.extBut _ _ hI (N _ (.head _)).1, (N _ (.head _)).2⟩
  rcases List.mem_cons.mp hp with rfl | hp
  · exact ⟨hs₃.extBut _ _ hC (N _ (.tail _ (.head _))).1, (N _ (.tail _ (.head _))).2⟩
  rcases List.mem_cons.mp hp with rfl | hp
  · exact ⟨hs₃.extBut _ _ hD (N _ (.tail _ (.tail _ (.head _)))).1, (N _ (.tail _ (.tail _ (.head _)))).2⟩
  rcases List.mem_cons.mp hp with rfl | hp
  · exact ⟨hec, zc.2⟩
  have z := N p (.tail _ (.tail _ (.tail _ (.tail _ hp))))
  exact ⟨hs₃.extBut _ _ (off p hp) z.1, z.2⟩
end
end Mine
namespace Mine
theorem News.drop4 {h₀ h : Heap} {L : Addr} {a b c x : Addr × Obj} {l : List (Addr × Obj)} (N : News h₀ L h (a :: b :: c :: x :: l)) : News h₀ L h (a :: b :: c :: l) := News.sub N fun p hp => by
  revert p; (repeat (first | refine List.forall_mem_cons.mpr ⟨by with_reducible repeat (first | assumption | exact List.mem_cons_self | exact List.mem_append_left _ (by assumption) | refine List.mem_cons_of_mem _ ?_ | refine List.mem_append_right _ ?_), ?_⟩ | refine List.forall_mem_append.mpr ⟨by (intro _ _; with_reducible repeat (first | assumption | exact List.mem_cons_self | exact List.mem_append_left _ (by assumption) | refine List.mem_cons_of_mem _ ?_ | refine List.mem_append_right _ ?_)), ?_⟩)); (intro _ _; with_reducible repeat (first | assumption | exact List.mem_cons_self | exact List.mem_append_left _ (by assumption) | refine List.mem_cons_of_mem _ ?_ | refine List.mem_append_right _ ?_))
theorem News.put4 {h₀ h : Heap} {L : Addr} {a b c x : Addr × Obj} {l : List (Addr × Obj)} (N : News h₀ L h (a :: b :: c :: l)) (hx : x ∈ l) : News h₀ L h (a :: b :: c :: x :: l) := News.sub N fun p hp => by
  simp only [List.mem_cons] at hp ⊢
  rcases hp with h | h | h | h | h <;> simp [h, hx]
end Mine
-- part LDef
namespace Mine
noncomputable def lawDef : List Stmt × Scope := match PG.main.body.getLast? with
  | some (.FunctionDef _ _ body _ _ _ scope _ _ _) => (body, scope)
  | _ => ([], default)
/-- the law's statements from the k-th on -/
noncomputable def lawRest (k : Nat) : List Stmt := lawDef.1.drop k
noncomputable def lawEnv (L fa : Addr) (cd : Value) : Env := envOfC (Str.ofString "law") lawDef.2 L fa cd
end Mine
namespace Mine
section
variable {prog : Program} {w : World} {A : Around} {E : Value → Shared → Prop} {s : Shared} {h₀ : Heap} {L : Addr} {m : Str → Option Value} {news : List (Addr × Obj)}
theorem m_slice3 {value slice : PySem.Expr} {l : Addr} {vs : List Value} {ns : List Int} {vl vu vk : Value} {lo hi st : Option Int} {ops : List Value} {Q : Value → Shared → Prop}
    (F : Fr h₀ L s.heap m) (N : News h₀ L s.heap news) (hl : h₀.IsList l vs.toArray) (hi' : IntsAre vs ns) (hn : ns.length < 1000) (pl : IsPart vl lo) (pu : IsPart vu hi) (pk : IsPart vk st) (h0 : st ≠ some 0)
    (h : ∀ D h' ws k, Fr h₀ L h' m → News h₀ L h' ((D, listOf (List.toArray ws) 0) :: news) → IntsAre ws k → (∀ p ∈ news, p.1 < D) → Q (.ref D) { s with heap := h' })
    (hs : subscripted slice false (.ref l) (.ref s.heap.objs.size) = operate ops (getItem (.ref l) (.ref s.heap.objs.size)))
    (ht : ∀ r, letTemporaryGo value (.ref l) r = pure ()) :
    wpAny (model prog w) A (subscriptTail value slice (.ref l) (.ref s.heap.objs.size)) Q E { s with heap := s.heap.push { cls := .type "slice", data := .fields #[vl, vu, vk] } } := by
  refine slice_list3 F N (Fr.lst F hl) pl pu pk h0 (fun h' F' N' => h _ h' (slicePick vs.toArray lo hi st).toList _ F' ?_ (hi'.pick lo hi st) fun p hp => Nat.lt_succ_of_lt (Heap.lt_size (N p hp).1)) hs ht (by rw [List.size_toArray, hi'.length, sizeLine_eq]; omega)
  rw [Array.toArray_toList]
  exact N'
theorem m_sum1 {D : Addr} {ws : List Value} {k : List Int} {n : Nat} {Q : Value → Shared → Prop} (hh : A.handled = none) (F : Fr h₀ L s.heap m) (N : News h₀ L s.heap ((D, listOf ws.toArray n) :: news)) (hi : IntsAre ws k)
    (h : ∀ x h' tk t, Fr h₀ L h' m → News h₀ L h' news → Q (.int x t) { s with heap := h', toks := tk }) : wpAny (model prog w) A (call (.builtin "sum") [.ref D]) Q E s :=
  sumK hh F N ⟨_, (N _ (.head _)).1, rfl, n, rfl⟩ hi fun h' tk t F' N' => h _ h' tk t F' fun p hp => N' p (.tail _ hp)
end
end Mine
namespace Mine
/-- the walk is to stop at this line -/
noncomputable def StopLn (_ : Nat) : Prop := True
section
variable {M : Model} {A : Around} {E : Value → Shared → Prop} {s : Shared} {Q : Flow → Shared → Prop} {n c e f : Nat} {rest : List Stmt} {env : Env}
theorem stopA {t : List PySem.Expr} {v : PySem.Expr} (_ : StopLn n) (k : wpAny M A (execs (.Assign t v ⟨n, c, e, f⟩ :: rest) env) Q E s) : wpAny M A (execs (.Assign t v ⟨n, c, e, f⟩ :: rest) env) Q E s := k
theorem stopI {t : PySem.Expr} {a b : List Stmt} (_ : StopLn n) (k : wpAny M A (execs (.If t a b ⟨n, c, e, f⟩ :: rest) env) Q E s) : wpAny M A (execs (.If t a b ⟨n, c, e, f⟩ :: rest) env) Q E s := k
theorem stopF {t v : PySem.Expr} {a b : List Stmt} (_ : StopLn n) (k : wpAny M A (execs (.For t v a b ⟨n, c, e, f⟩ :: rest) env) Q E s) : wpAny M A (execs (.For t v a b ⟨n, c, e, f⟩ :: rest) env) Q E s := k
theorem stopR {t : Option PySem.Expr} (_ : StopLn n) (k : wpAny M A (execs (.Return t ⟨n, c, e, f⟩ :: rest) env) Q E s) : wpAny M A (execs (.Return t ⟨n, c, e, f⟩ :: rest) env) Q E s := k
end
end Mine
namespace Mine
section
variable {prog : Program} {w : World} {A : Around} {E : Value → Shared → Prop} {s : Shared} {h₀ : Heap} {L : Addr} {m : Str → Option Value} {news : List (Addr × Obj)}
theorem m_slice2 {value slice : PySem.Expr} {l : Addr} {vs : List Value} {n : Nat} {ns ms : List Int} {vl vu : Value} {lo hi : Option Int} {Q : Value → Shared → Prop}
    (F : Fr h₀ L s.heap m) (N : News h₀ L s.heap news) (hm : (l, listOf vs.toArray n) ∈ news) (hi' : IntsAre vs ns) (hn : ns.length < 1000) (pl : IsPart vl lo) (pu : IsPart vu hi) (hp : IntsAre (slicePick vs.toArray lo hi none).toList ms)
    (h : ∀ D h' ws, Fr h₀ L h' m → News h₀ L h' ((D, listOf (List.toArray ws) 0) :: news) → IntsAre ws ms → (∀ p ∈ news, p.1 < D) → Q (.ref D) { s with heap := h' })
    (hs : subscripted slice false (.ref l) (.ref s.heap.objs.size) = operate [.ref s.heap.objs.size, .ref l] (getItem (.ref l) (.ref s.heap.objs.size))) (ht : ∀ r, letTemporaryGo value (.ref l) r = pure ()) :
    wpAny (model prog w) A (subscriptTail value slice (.ref l) (.ref s.heap.objs.size)) Q E { s with heap := s.heap.push { cls := .type "slice", data := .fields #[vl, vu, .none] } } := by
  refine kmk_slice F N (News.isList (n := n) N hm) pl pu (fun D h' F' N' l' => h D h' (slicePick vs.toArray lo hi none).toList F' ?_ hp l') hs ht (by rw [List.size_toArray, hi'.length, sizeLine_eq]; omega)
  rw [Array.toArray_toList]
  exact N'
end
end Mine
namespace Mine
section
variable {prog : Program} {w : World} {A : Around} {E : Value → Shared → Prop} {s : Shared} {h₀ h' : Heap} {L : Addr} {m : Str → Option Value} {news : List (Addr × Obj)}
/-- a stored name that a block reads -/
theorem m_stcell {env : Env} {x : Str} {v : Value} {v0 : Option Value} {c : Addr} {oc : Obj} {rest : List (Addr × Obj)} {Q : Unit → Shared → Prop} (F : Fr h₀ L s.heap m) (N : News h₀ L s.heap ((c, oc) :: rest))
    (hk : env.scope.kind = .function) (hx : env.kindOf x = some .cell) (hc : env.cells.lookup x = some c) (hd : oc.data = .cell v0) (hr : ∀ p ∈ rest, p.1 ≠ c)
    (h : ∀ h' oc', Fr h₀ L h' m → News h₀ L h' ((c, oc') :: rest) → oc'.data = .cell (some v) → Q () { s with heap := h' }) : wpAny (model prog w) A (storeName env x v) Q E s := by
  have z := N _ (.head _)
  refine wpAny_storeName_cell (v₀ := v0) hk hx hc ⟨oc, z.1, hd⟩ fun h' hv hs => ?_
  obtain ⟨oc', hec, hoc'⟩ := hv
  refine h h' oc' (F.change hs z.2.1 z.2.2) (fun p hp => ?_) hoc'
  rcases List.mem_cons.mp hp with rfl | hp
  · exact ⟨hec, z.2⟩
  · exact ⟨hs.extBut _ _ (hr p hp) (N p (.tail _ hp)).1, (N p (.tail _ hp)).2⟩
/-- behind a contract whose ground is the whole heap: the elder ledger and what is new -/
theorem news_new {new : List (Addr × Obj)} (F : Fr h₀ L s.heap m) (N : News h₀ L s.heap news) (hs : Sub s.heap h') (hn : ∀ p ∈ new, h'.get? p.1 = some p.2 ∧ s.heap.get? p.1 = none) :
    Fr h₀ L h' m ∧ News h₀ L h' (new ++ news) ∧ (∀ q ∈ new, ∀ p ∈ news, p.1 ≠ q.1) := by
  refine ⟨F.after hs, fun p hp => ?_, fun q hq p hp e => ?_⟩
  · rcases List.mem_append.mp hp with hp | hp
    · refine ⟨(hn p hp).1, fun q => ?_, ?_⟩
      · obtain ⟨oL, _, _, hL, _⟩ := F.ns
        have := (hn p hp).2
        rw [q, hL] at this; cases this
      · cases e : h₀.get? p.1 with
        | none => rfl
        | some o => have := F.keep _ _ e; rw [(hn p hp).2] at this; cases this
    · exact ⟨hs _ _ (N p hp).1, (N p hp).2⟩
  · have h1 := (N p hp).1
    rw [e, (hn q hq).2] at h1; cases h1
end
end Mine
namespace Mine
theorem room (e : Env) : (callerA.deeper e).depth + 510 < recursionLimit := by show 1 + claimMargin + 1 + 510 < recursionLimit; decide
theorem units (e : Env) : (callerA.deeper e).units + 5100 < cLine := by show 4 + 3 + 5100 < cLine; decide
theorem room' {e : Env} {n : Nat} (h : n ≤ 510 := by decide) : (callerA.deeper e).depth + n < recursionLimit := Nat.lt_of_le_of_lt (Nat.add_le_add_left h _) (room e)
theorem units' {e : Env} {n : Nat} (h : n ≤ 5100 := by decide) : (callerA.deeper e).units + n < cLine := Nat.lt_of_le_of_lt (Nat.add_le_add_left h _) (units e)
end Mine
namespace Mine
section
variable {prog : Program} {w : World} {A : Around} {E : Value → Shared → Prop} {s : Shared} {h₀ : Heap} {L : Addr} {m : Str → Option Value} {news : List (Addr × Obj)}
theorem m_range1 {n : Int} {t : Tok} {Q : Value → Shared → Prop} (F : Fr h₀ L s.heap m) (N : News h₀ L s.heap news)
    (h : ∀ r h' tk t u v, Fr h₀ L h' m → News h₀ L h' news → IsRange h' r 0 n 1 t u v → Q (.ref r) { s with heap := h', toks := tk }) : wpAny (model prog w) A (call (.type "range") [.int n t]) Q E s :=
  call_range_1 (h _ _ _ _ _ _ (F.push _) (fun p hp => ⟨Heap.get?_push_of_some _ (N p hp).1, (N p hp).2⟩) (IsRange.new ..))
theorem m_range2 {a b : Int} {t u : Tok} {Q : Value → Shared → Prop} (F : Fr h₀ L s.heap m) (N : News h₀ L s.heap news)
    (h : ∀ r h' tk t u v, Fr h₀ L h' m → News h₀ L h' news → IsRange h' r a b 1 t u v → Q (.ref r) { s with heap := h', toks := tk }) : wpAny (model prog w) A (call (.type "range") [.int a t, .int b u]) Q E s :=
  call_range_2 (h _ _ _ _ _ _ (F.push _) (fun p hp => ⟨Heap.get?_push_of_some _ (N p hp).1, (N p hp).2⟩) (IsRange.new ..))
theorem iter_range {env : Env} {x : Str} {body : List Stmt} {Q : Flow → Shared → Prop} {r : Addr} {a b : Int} {n : Nat} {t u v : Tok} (J : Nat → (Str → Option Value) → List (Addr × Obj) → Prop) (hh : A.handled = none) (F : Fr h₀ env.locals s.heap m) (N : News h₀ env.locals s.heap news)
    (hr : IsRange s.heap r a b 1 t u v) (hsm : Builtin.Range.small a b 1 = true) (hn : Builtin.Range.rangeSize a b 1 = (n : Int)) (hJ : J 0 m news)
    (turn : ∀ I i t m₁ news₁ h tk io, i < n → J i m₁ news₁ → (∀ p ∈ news₁, p.1 ≠ I) → Fr h₀ env.locals h (fun y => if y = x then some (.int (a + i) t) else m₁ y) → News h₀ env.locals h ((I, io) :: news₁) →
      wpAny (model prog w) A (execs body env) (TurnEnd h₀ env.locals I io (J (i + 1)) s Q) E { s with heap := h, toks := tk })
    (done : ∀ h' tk m' news', Fr h₀ env.locals h' m' → News h₀ env.locals h' news' → J n m' news' → Q .next { s with heap := h', toks := tk }) :
    wpAny (model prog w) A (pyIter (.ref r)) (fun it s₂ => LoopAtV prog w A h₀ env x body Q E it s₂) E s := by
  refine wpAny_pyIter_range hr hsm ?_
  have hI : IsRangeIter (s.heap.push { cls := .type "range_iterator", data := .fields #[rawInt a, rawInt (Builtin.Range.rangeSize a b 1), rawInt 1] }) s.heap.objs.size a n 1 := by
    rw [hn]; exact Heap.get?_push_size _ rfl
  refine loop_rangeI (I := s.heap.objs.size) (a := a) (c := 1) J hh hI (Nat.ne_of_gt F.ns.lt) (next_is_new F) (fun p hp => Nat.ne_of_lt (Heap.lt_size (N p hp).1)) (F.push _) (fun p hp => ⟨Heap.get?_push_of_some _ (N p hp).1, (N p hp).2⟩) hJ ?_ ?_
  · intro i t m₁ news₁ h tk io hi hJ₁ hne F₁ N₁
    rw [Int.mul_one] at F₁
    exact turn _ i t m₁ news₁ h tk io hi hJ₁ hne F₁ N₁
  · exact done
end
end Mine
namespace Mine
section
variable {prog : Program} {w : World} {A : Around} {E : Value → Shared → Prop} {s : Shared} {h₀ : Heap} {L : Addr} {m : Str → Option Value} {news : List (Addr × Obj)}
theorem cut_parts {sl : Addr} {u : Tok} {Q : Int × Int × Nat → Shared → Prop} (hs : s.heap.IsSliceOf sl .none (.int 3 u) .none) (h : Q ((0 : Int), (1 : Int), 3) s) :
    wpAny (model prog w) A (Builtin.Slice.sliceApplied (.ref sl) (pure ((5 : Nat) : Int))) Q E s := by
  obtain ⟨os, hos, hcs, hds⟩ := id hs
  unfold Builtin.Slice.sliceApplied Builtin.Slice.sliceFields
  refine wpAny_bind (wpAny_bind (wpAny_field hos hds (x := .none) rfl (wpAny_bind (wpAny_field hos hds (x := .int 3 u) rfl (wpAny_bind (wpAny_field hos hds (x := .none) rfl (wpAny_pure ?_)))))))
  refine wpAny_bind (slicePart_none ?_)
  show wpAny _ _ (if ((1 : Int) == 0) = true then _ else _) _ _ s
  rw [if_neg (by decide)]
  refine wpAny_bind (slicePart_none (wpAny_bind (slicePart_int (wpAny_bind (wpAny_pure ?_)))))
  show wpAny _ _ (pure ((0 : Int), (1 : Int), (3 : Nat))) _ _ s
  exact wpAny_pure h
theorem cut_get {t sl : Addr} {a b c d f : Value} {u : Tok} {Q : Value → Shared → Prop} (ht : IsTup s.heap t #[a, b, c, d, f]) (hs : s.heap.IsSliceOf sl .none (.int 3 u) .none)
    (h : Q (.ref s.heap.objs.size) { s with heap := s.heap.push { cls := .type "tuple", data := .seq #[a, b, c] } }) : wpAny (model prog w) A (getItem (.ref t) (.ref sl)) Q E s := by
  have hsz : sizeOk (.seq #[a, b, c]) := by
    show 3 ≤ sizeLine
    rw [sizeLine_eq]; decide
  obtain ⟨os, hos, hcs, hds⟩ := id hs
  have hTs : s.TypeIs (.ref sl) "slice" := ⟨os, hos, hcs⟩
  unfold getItem
  try with_reducible refine wpAny_holding ?_
  first | refine wpAny_bind (wpAny_pure ?_) | skip
  refine wpAny_bind (wpAny_sequenceKey ht.typeIs (by decide) ?_)
  refine wpAny_bind (wpAny_callSpecial?_slot (name := Str.ofString "__getitem__") ht.typeIs slot_tuple_getitem
    (wpAny_call_entry slot_tuple_getitem ht.typeIs entry_tuple_getitem ?_ (args_tuple_getitem _ _)))
  show wpAny _ _ (Builtin.Tuple.tupleItemsOf (.ref t) >>= _) _ _ s
  refine wpAny_bind (tupleItemsOf_ ht ?_)
  refine wpAny_bind (wpAny_typeOf hTs ?_)
  rw [if_pos (by decide)]
  refine wpAny_bind (cut_parts hs ?_)
  show wpAny _ _ (if ((0 : Int) == 0 && (1 : Int) == 1 && ((3 : Nat) == 5)) = true then _ else _) _ _ s
  rw [if_neg (by decide)]
  have e : ((List.range 3).filterMap fun (k : Nat) => (#[a, b, c, d, f] : Array Value)[((0 : Int) + (k : Int) * 1).toNat]?).toArray = #[a, b, c] := rfl
  rw [e]
  first
    | exact wpAny_bind (m := Builtin.Tuple.tupleExact _) (wpAny_newObj_type (wpAny_pure ⟨_, rfl, wpAny_pure h⟩) hsz)
    | exact wpAny_bind (m := Builtin.Tuple.tupleExact _) (wpAny_newObj_type (wpAny_bind (wpAny_pure (wpAny_pure ⟨_, rfl, wpAny_pure h⟩))) hsz)
    | exact wpAny_bind (wpAny_bind (m := Builtin.Tuple.tupleExact _) (wpAny_newObj_type (wpAny_pure (wpAny_pure ⟨_, rfl, wpAny_pure h⟩)) hsz))
    | exact wpAny_bind (wpAny_bind (m := Builtin.Tuple.tupleExact _) (wpAny_newObj_type (wpAny_pure ⟨_, rfl, wpAny_pure h⟩) hsz))
/-- t[:3] of a tuple of five -/
theorem cut5 {value slice : PySem.Expr} {t : Addr} {a b c d f : Value} {k : Nat} {u : Tok} {Q : Value → Shared → Prop}
    (F : Fr h₀ L s.heap m) (N : News h₀ L s.heap news) (ht : (t, ({ cls := .type "tuple", data := .seq #[a, b, c, d, f] k } : Obj)) ∈ news)
    (h : ∀ D h', Fr h₀ L h' m → News h₀ L h' ((D, ({ cls := .type "tuple", data := .seq #[a, b, c] } : Obj)) :: news) → (∀ p ∈ news, p.1 < D) → Q (.ref D) { s with heap := h' })
    (hs : subscripted slice false (.ref t) (.ref s.heap.objs.size) = operate [.ref s.heap.objs.size, .ref t] (getItem (.ref t) (.ref s.heap.objs.size)))
    (hg : ∀ r, letTemporaryGo value (.ref t) r = pure ()) :
    wpAny (model prog w) A (subscriptTail value slice (.ref t) (.ref s.heap.objs.size)) Q E { s with heap := s.heap.push { cls := .type "slice", data := .fields #[.none, .int 3 u, .none] } } := by
  have ht' : IsTup (s.heap.push { cls := .type "slice", data := .fields #[.none, .int 3 u, .none] }) t #[a, b, c, d, f] := IsTup.keeps (h := s.heap) ⟨_, (N _ ht).1, rfl, k, rfl⟩ fun _ _ e => Heap.get?_push_of_some _ e
  refine subscriptTail_ops (s := { s with heap := s.heap.push { cls := .type "slice", data := .fields #[.none, .int 3 u, .none] } }) ht'.typeIs slot_tuple_getitem.lookup
    (cut_get ht' (Heap.IsSliceOf.new ..) ?_) hs hg
  have N1 := News.push (F.push { cls := .type "slice", data := .fields #[.none, .int 3 u, .none] }) (N.grown fun _ _ e => Heap.get?_push_of_some _ e) { cls := .type "tuple", data := .seq #[a, b, c] }
  rw [Heap.size_push] at N1
  show Q (.ref (s.heap.push _).objs.size) _
  rw [Heap.size_push]
  exact h _ _ ((F.push _).push _) N1 fun p hp => Nat.lt_succ_of_lt (Heap.lt_size (N p hp).1)
end
end Mine
-- part Srt
namespace Mine
/-- a sort's questions, all in range, answered by c, and what comes out -/
noncomputable def KOk {α : Type} (n : Nat) (c : Nat → Nat → Bool) : KasT α → (α → Prop) → Prop
  | .ret a, P => P a
  | .ask i j k, P => i < n ∧ j < n ∧ KOk n c (k (c i j)) P
theorem KOk.mono {α : Type} {n : Nat} {c : Nat → Nat → Bool} {P P' : α → Prop} (hp : ∀ a, P a → P' a) : ∀ {t : KasT α}, KOk n c t P → KOk n c t P'
  | .ret _, h => hp _ h
  | .ask _ _ _, h => ⟨h.1, h.2.1, KOk.mono hp h.2.2⟩
theorem KOk.bind {α β : Type} {n : Nat} {c : Nat → Nat → Bool} {f : α → KasT β} {P : β → Prop} : ∀ {t : KasT α}, KOk n c t (fun a => KOk n c (f a) P) → KOk n c (t.bind f) P
  | .ret _, h => h
  | .ask _ _ _, h => ⟨h.1, h.2.1, KOk.bind h.2.2⟩
theorem KOk.wp {α : Type} {n : Nat} {c : Nat → Nat → Bool} {cmp : Nat → Nat → (Bool → Shared → Prop) → Shared → Prop} {P : α → Prop} {Q : α → Shared → Prop} {s : Shared}
    (hc : ∀ i j C, i < n → j < n → C (c i j) s → cmp i j C s) (hq : ∀ a, P a → Q a s) : ∀ {t : KasT α}, KOk n c t P → t.kasWp cmp Q s
  | .ret _, h => hq _ h
  | .ask _ _ _, h => hc _ _ _ h.1 h.2.1 (KOk.wp hc hq h.2.2)
section
variable {n : Nat} {key : Nat → Int} {p : Array Nat}
noncomputable abbrev kc (key : Nat → Int) (i j : Nat) : Bool := decide (key i < key j)
noncomputable abbrev KI (key : Nat → Int) (p : Array Nat) (i : Nat) : Int := key (p.getD i 0)
noncomputable def Srt (key : Nat → Int) (p : Array Nat) (k : Nat) : Prop := ∀ i j, i ≤ j → j < k → KI key p i ≤ KI key p j
noncomputable def Dsc (key : Nat → Int) (p : Array Nat) (k : Nat) : Prop := ∀ i j, i ≤ j → j < k → KI key p j ≤ KI key p i
noncomputable def PRange (n : Nat) (p : Array Nat) : Prop := p.toList.Perm (List.range n)
theorem PRange.size (h : PRange n p) : p.size = n := by have := h.length_eq; simpa using this
theorem PRange.lt (h : PRange n p) (hn : 0 < n) (i : Nat) : p.getD i 0 < n := by
  by_cases hi : i < p.size
  · have hm : p.getD i 0 ∈ p.toList := by simp [Array.getD, hi]
    simpa using h.mem_iff.mp hm
  · simp [Array.getD, hi, hn]
theorem PRange.inj (h : PRange n p) {i j : Nat} (hi : i < n) (hj : j < n) (e : p.getD i 0 = p.getD j 0) : i = j := by
  have hs := h.size
  have nd : p.toList.Nodup := h.nodup_iff.mpr List.nodup_range
  have hi' : i < p.size := by omega
  have hj' : j < p.size := by omega
  have e' : p[i] = p[j] := by simpa [Array.getD, hi', hj'] using e
  have e2 : p.toList[i]'(by simpa using hi') = p.toList[j]'(by simpa using hj') := by simpa using e'
  exact (List.getElem_inj nd).mp e2
theorem PRange.perm {q : Array Nat} (h : PRange n p) (hp : q.Perm p) : PRange n q := (Array.perm_iff_toList_perm.mp hp).trans h
theorem getD_of {q : Array Nat} {i j : Nat} (h : q[i]? = p[j]?) : q.getD i 0 = p.getD j 0 := by
  rw [Array.getD_eq_getD_getElem?, Array.getD_eq_getD_getElem?, h]
theorem srt_mono {k l : Nat} (h : Srt key p k) (hl : l ≤ k) : Srt key p l := fun i j hij hj => h i j hij (by omega)

theorem srt_one : Srt key p 1 := fun i j hij hj => by
  have : i = j := by omega
  subst this
  exact Int.le_refl _
theorem asc_ok (P : PRange n p) (hn0 : 0 < n) : ∀ (f m : Nat), 1 ≤ m → m + f ≤ n → Srt key p m → KOk n (kc key) (kas_asc p f m) fun k => m ≤ k ∧ k ≤ m + f ∧ Srt key p k ∧ (k < m + f → KI key p k < KI key p (k - 1))
  | 0, m, h1, hl, hs => ⟨Nat.le_refl _, Nat.le_refl _, hs, fun h => absurd h (Nat.lt_irrefl _)⟩
  | f + 1, m, h1, hl, hs => by
    refine ⟨P.lt hn0 _, P.lt hn0 _, ?_⟩
    dsimp only
    by_cases hc : key (p.getD m 0) < key (p.getD (m - 1) 0)
    · rw [show kc key (p.getD m 0) (p.getD (m - 1) 0) = true from decide_eq_true hc, if_pos rfl]
      exact ⟨Nat.le_refl _, by omega, hs, fun _ => hc⟩
    · rw [show kc key (p.getD m 0) (p.getD (m - 1) 0) = false from decide_eq_false hc, if_neg (by decide)]
      refine KOk.mono (fun k q => ⟨by omega, by omega, q.2.2.1, fun h => q.2.2.2 (by omega)⟩) (asc_ok P hn0 f (m + 1) (by omega) (by omega) fun i j hij hj => ?_)
      by_cases hjm : j = m
      · subst hjm
        by_cases hij' : i = j
        · subst hij'; exact Int.le_refl _
        · have := hs i (j - 1) (by omega) (by omega)
          show KI key p i ≤ KI key p j
          unfold KI at this ⊢
          omega
      · exact hs i j hij (by omega)
theorem desc_ok (P : PRange n p) (hn0 : 0 < n) (hk : ∀ i j, i < n → j < n → key i = key j → i = j) : ∀ (f m : Nat), 1 ≤ m → m + f ≤ n → Dsc key p m → KOk n (kc key) (kas_desc f p m 0) fun r => r.1 = p ∧ r.2.2 = 0 ∧ m ≤ r.2.1 ∧ r.2.1 ≤ m + f ∧ Dsc key p r.2.1
  | 0, m, h1, hl, hs => ⟨rfl, rfl, Nat.le_refl _, Nat.le_refl _, hs⟩
  | f + 1, m, h1, hl, hs => by
    refine ⟨P.lt hn0 _, P.lt hn0 _, ?_⟩
    dsimp only
    by_cases hc : key (p.getD m 0) < key (p.getD (m - 1) 0)
    · rw [show kc key (p.getD m 0) (p.getD (m - 1) 0) = true from decide_eq_true hc, if_pos rfl, if_neg (by decide)]
      refine KOk.mono (fun k q => ⟨q.1, q.2.1, by omega, by omega, q.2.2.2.2⟩) (desc_ok P hn0 hk f (m + 1) (by omega) (by omega) fun i j hij hj => ?_)
      by_cases hjm : j = m
      · subst hjm
        by_cases hij' : i = j
        · subst hij'; exact Int.le_refl _
        · have := hs i (j - 1) (by omega) (by omega)
          show KI key p j ≤ KI key p i
          unfold KI at this ⊢
          omega
      · exact hs i j hij (by omega)
    · rw [show kc key (p.getD m 0) (p.getD (m - 1) 0) = false from decide_eq_false hc, if_neg (by decide)]
      refine ⟨P.lt hn0 _, P.lt hn0 _, ?_⟩
      dsimp only
      have hne : p.getD (m - 1) 0 ≠ p.getD m 0 := fun e => by have := P.inj (show m - 1 < n by omega) (show m < n by omega) e; omega
      have hd : key (p.getD (m - 1) 0) < key (p.getD m 0) := by
        have h5 : key (p.getD (m - 1) 0) ≠ key (p.getD m 0) := fun e => hne (hk _ _ (P.lt hn0 _) (P.lt hn0 _) e)
        omega
      rw [show kc key (p.getD (m - 1) 0) (p.getD m 0) = true from decide_eq_true hd, if_pos rfl]
      exact ⟨rfl, rfl, Nat.le_refl _, Nat.le_add_right m (f + 1), hs⟩
theorem rev_ok (P : PRange n p) {m : Nat} (hm : m ≤ n) (hd : Dsc key p m) : PRange n (kas_rev p 0 m) ∧ Srt key (kas_rev p 0 m) m := by
  have hs := P.size
  refine ⟨P.perm (mirror_perm _ _ _ _), fun i j hij hj => ?_⟩
  have g : ∀ i, i < m → (kas_rev p 0 m).getD i 0 = p.getD (m - 1 - i) 0 := fun i hi => getD_of (by
    have e := getElem?_mirror_all (xs := p) (i := 0) (j := m) (by omega) i
    rw [if_pos ⟨Nat.zero_le _, hi⟩] at e
    rw [kas_rev, e]
    rw [Nat.zero_add])
  show key _ ≤ key _
  rw [g i (Nat.lt_of_le_of_lt hij hj), g j hj]
  exact hd (m - 1 - j) (m - 1 - i) (Nat.sub_le_sub_left hij _) (Nat.lt_of_le_of_lt (Nat.sub_le _ _) (Nat.sub_lt (Nat.lt_of_le_of_lt (Nat.zero_le _) hj) (by decide)))
theorem count_ok (P : PRange n p) (hn : 2 ≤ n) (hk : ∀ i j, i < n → j < n → key i = key j → i = j) : KOk n (kc key) (kas_count n p) fun r => PRange n r.2 ∧ r.1 ≤ n ∧ 1 ≤ r.1 ∧ Srt key r.2 r.1 := by
  have hn0 : 0 < n := by omega
  unfold kas_count
  refine KOk.bind (KOk.mono (fun m q => ?_) (asc_ok P hn0 (n - 1) 1 (Nat.le_refl _) (Nat.le_of_eq (Nat.add_sub_of_le hn0)) srt_one))
  obtain ⟨q1, q2, q3, q4⟩ := q
  have q2' : m ≤ n := Nat.le_trans q2 (Nat.le_of_eq (Nat.add_sub_of_le hn0))
  by_cases hm : m = n
  · rw [if_pos (by simp [hm])]
    exact ⟨P, q2', by omega, q3⟩
  · rw [if_neg (by simpa using hm)]
    have hlt := q4 (by rw [Nat.add_sub_of_le hn0]; exact Nat.lt_of_le_of_ne q2' hm)
    by_cases h1 : m > 1
    · rw [if_pos h1]
      refine ⟨P.lt hn0 _, P.lt hn0 _, ?_⟩
      dsimp only
      have hc : key (p.getD 0 0) < key (p.getD (m - 1) 0) := by
        have h2 := q3 0 (m - 1) (by omega) (by omega)
        have hne : p.getD 0 0 ≠ p.getD (m - 1) 0 := fun e => by have := P.inj (show 0 < n by omega) (show m - 1 < n by omega) e; omega
        have h5 : key (p.getD 0 0) ≠ key (p.getD (m - 1) 0) := fun e => hne (hk _ _ (P.lt hn0 _) (P.lt hn0 _) e)
        unfold KI at h2
        omega
      rw [show kc key (p.getD 0 0) (p.getD (m - 1) 0) = true from decide_eq_true hc, if_pos rfl]
      exact ⟨P, q2', by omega, q3⟩
    · rw [if_neg h1]
      have hm1 : m = 1 := by omega
      subst hm1
      unfold kas_descPart
      refine KOk.bind (KOk.mono (fun r q => ?_) (desc_ok P hn0 hk (n - (1 + 1)) (1 + 1) (by omega) (by omega) fun i j hij hj => ?_))
      · obtain ⟨e1, e2, e3, e4, e5⟩ := q
        rw [e1, e2, if_neg (by decide)]
        have hb : r.2.1 ≤ n := Nat.le_trans e4 (Nat.le_of_eq (Nat.add_sub_of_le hn))
        have hb1 : 1 ≤ r.2.1 := Nat.le_trans (by decide) e3
        have hbe := Nat.add_sub_of_le hb
        obtain ⟨P', hs'⟩ := rev_ok P hb e5
        unfold kas_tail3
        refine KOk.bind (KOk.mono (fun k q => ?_) (asc_ok P' hn0 (n - r.2.1) r.2.1 hb1 (Nat.le_of_eq hbe) hs'))
        exact ⟨P', Nat.le_trans q.2.1 (Nat.le_of_eq hbe), Nat.le_trans hb1 q.1, q.2.2.1⟩
      · by_cases hij' : i = j
        · subst hij'; exact Int.le_refl _
        · have : i = 0 ∧ j = 1 := by omega
          obtain ⟨rfl, rfl⟩ := this
          exact Int.le_of_lt hlt
theorem mid_lt {l r : Nat} (h : l < r) : l ≤ (l + r) / 2 ∧ (l + r) / 2 < r := ⟨(Nat.le_div_iff_mul_le (by decide)).mpr (by rw [Nat.mul_two]; exact Nat.add_le_add_left (Nat.le_of_lt h) l), (Nat.div_lt_iff_lt_mul (by decide)).mpr (by rw [Nat.mul_two]; exact Nat.add_lt_add_right h r)⟩
theorem place_ok (P : PRange n p) (hn0 : 0 < n) {k : Nat} (hs : Srt key p k) : ∀ (f l r : Nat), l ≤ r → r ≤ k → r - l ≤ f → (∀ i, i < l → KI key p i ≤ KI key p k) → (∀ i, r ≤ i → i < k → KI key p k < KI key p i) →
    KOk n (kc key) (kas_place p k f l r) fun q => q ≤ k ∧ (∀ i, i < q → KI key p i ≤ KI key p k) ∧ (∀ i, q ≤ i → i < k → KI key p k < KI key p i)
  | 0, l, r, h1, h2, h3, ha, hb => by
    have : l = r := by omega
    subst this
    exact ⟨h2, ha, hb⟩
  | f + 1, l, r, h1, h2, h3, ha, hb => by
    unfold kas_place
    by_cases hl : l ≥ r
    · rw [if_pos hl]
      have : l = r := by omega
      subst this
      exact ⟨h2, ha, hb⟩
    · rw [if_neg hl]
      have hlr : l < r := Nat.not_le.mp hl
      obtain ⟨m1, m2⟩ := mid_lt hlr
      refine ⟨P.lt hn0 _, P.lt hn0 _, ?_⟩
      dsimp only
      by_cases hc : key (p.getD k 0) < key (p.getD ((l + r) / 2) 0)
      · rw [show kc key (p.getD k 0) (p.getD ((l + r) / 2) 0) = true from decide_eq_true hc, if_pos rfl]
        refine place_ok P hn0 hs f l ((l + r) / 2) m1 (Nat.le_trans (Nat.le_of_lt m2) h2) (Nat.le_of_lt_succ (Nat.lt_of_lt_of_le (Nat.sub_lt_sub_right m1 m2) h3)) ha fun i hi hik => ?_
        exact Int.lt_of_lt_of_le hc (hs _ i hi hik)
      · rw [show kc key (p.getD k 0) (p.getD ((l + r) / 2) 0) = false from decide_eq_false hc, if_neg (by decide)]
        refine place_ok P hn0 hs f ((l + r) / 2 + 1) r m2 h2 (Nat.le_of_lt_succ (Nat.lt_of_lt_of_le (Nat.sub_lt_sub_left hlr (Nat.lt_succ_of_le m1)) h3)) (fun i hi => ?_) hb
        exact Int.le_trans (hs i ((l + r) / 2) (Nat.le_of_lt_succ hi) (Nat.lt_of_lt_of_le m2 h2)) (Int.not_lt.mp hc)
theorem bin_ok (hn0 : 0 < n) : ∀ (f : Nat) (p : Array Nat) (k : Nat), PRange n p → k + f = n → Srt key p k → KOk n (kc key) (kas_bin f p k) fun q => PRange n q ∧ Srt key q n
  | 0, p, k, P, hf, hs => ⟨P, by rw [← hf]; exact hs⟩
  | f + 1, p, k, P, hf, hs => by
    unfold kas_bin
    have hsz := P.size
    refine KOk.bind (KOk.mono (fun l q => ?_) (place_ok P hn0 hs k 0 k (Nat.zero_le _) (Nat.le_refl _) (by omega) (fun i hi => absurd hi (Nat.not_lt_zero _)) fun i hi hik => absurd hik (Nat.not_lt.mpr hi)))
    obtain ⟨hlk, ha, hb⟩ := q
    refine bin_ok hn0 f _ (k + 1) (P.perm (bubble_perm _ _ _)) (by omega) ?_
    have e := fun i => getElem?_bubble (xs := p) (src := k) (by omega) (k - l) (Nat.sub_le _ _) i
    clear hf hsz P
    have hkl : k - (k - l) = l := Nat.sub_sub_self hlk
    rw [hkl] at e
    clear hkl
    have g1 : (bubble p k (k - l)).getD l 0 = p.getD k 0 := getD_of (by rw [e l, if_pos (by omega)])
    have g2 : ∀ i, l < i → i ≤ k → (bubble p k (k - l)).getD i 0 = p.getD (i - 1) 0 := fun i h1 h2 => getD_of (by rw [e i, if_neg (by omega), if_pos (by omega)])
    have g3 : ∀ i, i < l → (bubble p k (k - l)).getD i 0 = p.getD i 0 := fun i h1 => getD_of (by rw [e i, if_neg (by omega), if_neg (by omega)])
    intro i j hij hj
    show key _ ≤ key _
    by_cases hi : i < l
    · rw [g3 i hi]
      by_cases hj1 : j < l
      · rw [g3 j hj1]; exact hs i j hij (by omega)
      · by_cases hj2 : j = l
        · subst hj2; rw [g1]; exact ha i hi
        · rw [g2 j (by omega) (by omega)]; exact hs i (j - 1) (by omega) (by omega)
    · by_cases hi2 : i = l
      · subst hi2
        rw [g1]
        by_cases hj2 : j = i
        · subst hj2; rw [g1]; exact Int.le_refl _
        · rw [g2 j (by omega) (by omega)]; exact Int.le_of_lt (hb (j - 1) (by omega) (by omega))
      · rw [g2 i (by omega) (by omega), g2 j (by omega) (by omega)]
        exact hs (i - 1) (j - 1) (by omega) (by omega)
theorem sort_ok (hn : 2 ≤ n) (hk : ∀ i j, i < n → j < n → key i = key j → i = j) : KOk n (kc key) (kas_sort n) fun q => PRange n q ∧ Srt key q n := by
  unfold kas_sort
  have P : PRange n (List.toArray (List.range n)) := List.Perm.refl _
  refine KOk.bind (KOk.mono (fun r q => ?_) (count_ok P hn hk))
  obtain ⟨P', h1, h2, hs⟩ := q
  by_cases hlt : r.1 < n
  · rw [if_pos hlt, show max r.1 1 = r.1 by omega]
    exact bin_ok (by omega) (n - r.1) r.2 r.1 P' (by omega) hs
  · rw [if_neg hlt]
    have : r.1 = n := by omega
    rw [this] at hs
    exact ⟨P', hs⟩
end
end Mine
-- part Srt2
set_option maxRecDepth 100000
namespace Mine
noncomputable def keyT : List Int → Int
  | [s, x, y] => s * 10000 + (x + 50) * 100 + (y + 50)
  | _ => 0
theorem keyT3 {s x y : Int} : keyT [s, x, y] = s * 10000 + (x + 50) * 100 + (y + 50) := rfl
noncomputable def Good3 (e : List Int) : Prop := ∃ s x y, e = [s, x, y] ∧ -50 < x ∧ x < 50 ∧ -50 < y ∧ y < 50
section
variable {prog : Program} {w : World} {A : Around} {E : Value → Shared → Prop} {s : Shared} {h₀ : Heap} {L : Addr} {m : Str → Option Value} {news : List (Addr × Obj)}
theorem lex_step {p q : Int} {t u : Tok} {r : List (Value × Value)} {i : Nat} {b fin : Bool} {Q : Bool → Shared → Prop} (h1 : p = q → KatLex prog w A b fin Q r (i + 1) s) (h2 : p ≠ q → Q (decide (p < q)) s) (hr : A.units < cLine) :
    KatLex prog w A b fin Q ((.int p t, .int q u) :: r) i s := by
  refine kat_cons (wpAny_eqBool_int (kat_go (fun e => ?_) (fun e => ?_)))
  · exact kat_yes (h1 (by simpa using e))
  · have hne : p ≠ q := by simpa using e
    refine kat_no ?_
    cases hb : (b && i == 0) with
    | true => exact oneLt_int (h2 hne)
    | false => exact kat_one _ _ (P.lt_int (h2 hne))
theorem lt_tup {v u : Value} {e f : List Int} {tups : List (Addr × Obj)} {Q : Bool → Shared → Prop} (N : News h₀ L s.heap tups) (hv : TupN tups v e) (hu : TupN tups u f) (ge : Good3 e) (gf : Good3 f) (hr : A.units < cLine) (h : Q (decide (keyT e < keyT f)) s) :
    wpAny (model prog w) A (keyLt' (tuples' true) v u) Q E s := by
  obtain ⟨a, its, n, rfl, hm, hi⟩ := hv
  obtain ⟨b, its', n', rfl, hm', hi'⟩ := hu
  obtain ⟨s1, x1, y1, rfl, b1, b2, b3, b4⟩ := ge
  obtain ⟨s2, x2, y2, rfl, c1, c2, c3, c4⟩ := gf
  obtain ⟨t1, t2, t3, rfl⟩ := int3 hi
  obtain ⟨u1, u2, u3, rfl⟩ := int3 hi'
  have key : ∀ {P : Prop} [Decidable P], (P ↔ keyT [s1, x1, y1] < keyT [s2, x2, y2]) → Q (decide P) s := fun {P} _ hP => by
    have : decide P = decide (keyT [s1, x1, y1] < keyT [s2, x2, y2]) := decide_eq_decide.mpr hP
    rw [this]; exact h
  refine kat_lt (N _ hm).1 rfl (N _ hm').1 rfl ?_
  show KatLex prog w A true (decide (3 < 3)) Q [(Value.int s1 t1, Value.int s2 u1), (Value.int x1 t2, Value.int x2 u2), (Value.int y1 t3, Value.int y2 u3)] 0 s
  refine lex_step (fun q1 => lex_step (fun q2 => lex_step (fun q3 => kat_nil (key ?_)) (fun q3 => key ?_) hr) (fun q2 => key ?_) hr) (fun q1 => key ?_) hr
  · show 3 < 3 ↔ s1 * 10000 + (x1 + 50) * 100 + (y1 + 50) < s2 * 10000 + (x2 + 50) * 100 + (y2 + 50)
    omega
  · show y1 < y2 ↔ s1 * 10000 + (x1 + 50) * 100 + (y1 + 50) < s2 * 10000 + (x2 + 50) * 100 + (y2 + 50)
    omega
  · show x1 < x2 ↔ s1 * 10000 + (x1 + 50) * 100 + (y1 + 50) < s2 * 10000 + (x2 + 50) * 100 + (y2 + 50)
    omega
  · show s1 < s2 ↔ s1 * 10000 + (x1 + 50) * 100 + (y1 + 50) < s2 * 10000 + (x2 + 50) * 100 + (y2 + 50)
    omega
theorem kat_tups {tups : List (Addr × Obj)} (N : News h₀ L s.heap tups) : ∀ {vs : List Value} {es : List (List Int)}, All2 (TupN tups) vs es → (∀ e ∈ es, Good3 e) → ∃ fs, KatTups s.heap vs fs ∧ fs.length = vs.length ∧ ∀ v ∈ fs, ∃ i t, v = .int i t
  | _, _, .nil, _ => ⟨[], .nil, rfl, List.forall_mem_nil _⟩
  | _, _, .cons r t, hg => by
    obtain ⟨fs, h1, h2, h3⟩ := kat_tups N t fun e he => hg e (.tail _ he)
    obtain ⟨a, its, n, rfl, hm, hi⟩ := r
    obtain ⟨s1, x1, y1, rfl, _⟩ := hg _ (.head _)
    obtain ⟨t1, t2, t3, rfl⟩ := int3 hi
    refine ⟨Value.int s1 t1 :: fs, KatTups.cons (N _ hm).1 rfl rfl rfl h1, by rw [List.length_cons, List.length_cons, h2], fun v hv => ?_⟩
    rcases List.mem_cons.mp hv with rfl | hv
    · exact ⟨s1, t1, rfl⟩
    · exact h3 v hv
theorem All2.at {α β : Type} {R : α → β → Prop} {as : List α} {bs : List β} (h : All2 R as bs) {d : α} {d' : β} {i : Nat} (hi : i < as.length) : R (as.getD i d) (bs.getD i d') := by
  obtain ⟨b, hb, r⟩ := h.get (getD_some (d := d) hi)
  have : bs.getD i d' = b := by rw [List.getD_eq_getElem?_getD, hb]; rfl
  rw [this]; exact r
theorem All2.maps {α β γ : Type} {R : α → β → Prop} {f : γ → α} {g : γ → β} : ∀ {l : List γ}, (∀ x ∈ l, R (f x) (g x)) → All2 R (l.map f) (l.map g)
  | [], _ => .nil
  | x :: l, h => .cons (h x (.head _)) (All2.maps fun y hy => h y (.tail _ hy))
/-- sorted, of tuples of three ints -/
theorem m_sortedT {l : Addr} {vs : List Value} {es : List (List Int)} {k : Nat} {Q : Value → Shared → Prop} (F : Fr h₀ L s.heap m) (N : News h₀ L s.heap news) (hl : (l, listOf vs.toArray k) ∈ news) (ha : All2 (TupN news) vs es) (hg : ∀ e ∈ es, Good3 e) (hnd : (es.map keyT).Nodup)
    (h2 : 2 ≤ es.length) (h64 : es.length < 64) (hu : A.in1.in1.units < cLine)
    (h : ∀ D h' tk vs' es' c, Fr h₀ L h' m → News h₀ L h' ((D, listOf (List.toArray vs') c) :: news) → (∀ p ∈ news, p.1 < D) → All2 (TupN news) vs' es' → es'.Perm es → es'.Pairwise (fun e f => keyT e ≤ keyT f) → Q (.ref D) { s with heap := h', toks := tk }) :
    wpAny (model prog w) A (call (.builtin "sorted") [.ref l]) Q E s := by
  have hlen := ha.length
  refine kat_sorted F N ⟨_, (N _ hl).1, rfl, k, rfl⟩ (by omega) (by omega) fun D e1 h' F' N' hlt => ?_
  have N₁ : News h₀ L h' news := fun p hp => N' p (.tail _ hp)
  obtain ⟨fs, t1, t2, t3⟩ := kat_tups (s := { s with heap := h' }) N₁ ha hg
  refine kat_kind (T := .type "int") t1 (by omega) (fun v hv => by obtain ⟨i, t, rfl⟩ := t3 v hv; exact Looks.of_pure rfl) rfl ?_
  have hinj : ∀ i j, i < vs.length → j < vs.length → keyT (es.getD i []) = keyT (es.getD j []) → i = j := fun i j hi hj e => by
    have hi' : i < (es.map keyT).length := by rw [List.length_map]; omega
    have hj' : j < (es.map keyT).length := by rw [List.length_map]; omega
    refine (List.getElem_inj hnd (h₀ := hi') (h₁ := hj')).mp ?_
    rw [List.getElem_map, List.getElem_map]
    have g : ∀ (i : Nat) (h : i < es.length), es.getD i [] = es[i] := fun i h => by simp [h]
    rw [g i (by omega), g j (by omega)] at e
    exact e
  refine KOk.wp (n := vs.length) (c := kc fun i => keyT (es.getD i [])) (P := fun q => PRange vs.length q ∧ Srt (fun i => keyT (es.getD i [])) q vs.length) (fun i j C hi hj hC => ?_) (fun q hq => ?_) (sort_ok (by omega) hinj)
  · exact lt_tup N₁ (ha.at hi) (ha.at hj) (hg _ (getD_mem (by omega))) (hg _ (getD_mem (by omega))) hu hC
  · obtain ⟨P, S⟩ := hq
    refine KasFin.intro F' N' (UpdF.head fun p hp => Nat.ne_of_lt (hlt p hp)) fun h'' c F'' N'' => ?_
    have hp : (q.toList.map fun i => es.getD i []).Perm es := by
      have e : (List.range vs.length).map (fun i => es.getD i []) = es := by
        apply List.ext_getElem
        · simp [hlen]
        · intro i h1 h2
          simp only [List.getElem_map, List.getElem_range]
          simp [h2]
      have := P.map fun i => es.getD i []
      rw [e] at this
      exact this
    refine h D h'' _ _ (q.toList.map fun i => es.getD i []) c F'' N'' hlt (All2.maps fun i hi => ?_) hp ?_
    · have : i < vs.length := by simpa using P.mem_iff.mp hi
      exact ha.at this
    · rw [List.pairwise_map, List.pairwise_iff_getElem]
      intro i j hi hj hij
      have hs := P.size
      have hi' : i < q.size := by simpa using hi
      have hj' : j < q.size := by simpa using hj
      have := S i j (by omega) (by omega)
      unfold KI at this
      simpa [Array.getD, hi', hj'] using this
end
end Mine
namespace Mine
noncomputable def datT (e : List Int) : PyData := .tuple (e.map .int)
noncomputable def datL (es : List (List Int)) : PyData := .list (es.map datT)
theorem canLay_ints : ∀ e : List Int, PyData.canLayAll0 (e.map .int) = true
  | [] => rfl
  | x :: e => by rw [List.map_cons, PyData.canLayAll0, canLay_ints e]; rfl
theorem canLay_dats : ∀ es : List (List Int), PyData.canLayAll0 (es.map datT) = true
  | [] => rfl
  | x :: es => by
    rw [List.map_cons, PyData.canLayAll0, canLay_dats es, datT, PyData.canLay0, canLay_ints]; rfl
theorem depth_ints : ∀ e : List Int, PyData.depthAll (e.map .int) = 0
  | [] => rfl
  | x :: e => by rw [List.map_cons, PyData.depthAll, depth_ints e]; rfl
theorem depth_dats : ∀ es : List (List Int), PyData.depthAll (es.map datT) ≤ 1
  | [] => Nat.zero_le _
  | x :: es => by
    rw [List.map_cons, PyData.depthAll, datT, PyData.depth, depth_ints]
    have := depth_dats es
    omega
theorem shaped_dat (es : List (List Int)) : SeqAt.shaped (datL es) = true := by
  unfold SeqAt.shaped datL
  rw [PyData.canLay0, PyData.depth, canLay_dats]
  have := depth_dats es
  simp
  omega
theorem eqv_ints : ∀ e : List Int, PyData.eqvAll (e.map .int) (e.map .int) = true
  | [] => rfl
  | x :: e => by rw [List.map_cons, PyData.eqvAll, eqv_ints e, PyData.eqv]; simp
theorem eqv_dats : ∀ es : List (List Int), PyData.eqvAll (es.map datT) (es.map datT) = true
  | [] => rfl
  | x :: es => by rw [List.map_cons, PyData.eqvAll, eqv_dats es, datT, PyData.eqv, eqv_ints]; rfl
theorem eqv_dat (es : List (List Int)) : PyData.eqv (datL es) (datL es) = true := by
  unfold datL
  rw [PyData.eqv, eqv_dats]
section
variable {prog : Program} {w : World} {A : Around} {E : Value → Shared → Prop} {s : Shared} {h₀ : Heap} {L : Addr} {m : Str → Option Value} {news : List (Addr × Obj)}
theorem reads_ints {h : Heap} : ∀ {vs : List Value} {e : List Int}, IntsAre vs e → ReadsAll h vs (e.map .int) []
  | _, _, .nil => .nil
  | _, _, .cons i t r => ReadsAll.cons (Reads.int i t) (reads_ints r)
theorem reads_tups (N : News h₀ L s.heap news) : ∀ {vs : List Value} {es : List (List Int)}, All2 (TupN news) vs es → ReadsAll s.heap vs (es.map datT) []
  | _, _, .nil => .nil
  | _, _, .cons r t => by
    obtain ⟨a, its, n, rfl, hm, hi⟩ := r
    exact ReadsAll.cons (as := []) (reads_tuple_at (N _ hm).1 rfl rfl (reads_ints hi)) (reads_tups N t)
theorem m_neT {a b : Addr} {vs us : List Value} {es : List (List Int)} {k l : Nat} {Q : Value → Shared → Prop} (N : News h₀ L s.heap news) (hl : (a, listOf vs.toArray k) ∈ news) (hb : (b, listOf us.toArray l) ∈ news) (ha : All2 (TupN news) vs es) (ha' : All2 (TupN news) us es) (hu : A.units + 64 < cLine)
    (h : Q (.bool false) s) : wpAny (model prog w) A (compareOp .NotEq (.ref a) (.ref b)) Q E s := by
  refine ne_dataH (da := datL es) (db := datL es) (reads_list_at (N _ hl).1 rfl rfl (reads_tups N ha)) (reads_list_at (N _ hb).1 rfl rfl (reads_tups N ha')) (shaped_dat es) (shaped_dat es) hu ?_
  rw [eqv_dat]
  exact h
end
end Mine
namespace Mine
local macro_rules | `(tactic| walk_at "m is") => `(tactic| fail_if_success (fail_if_success (with_reducible first | refine g1 ?_ | refine g2 ?_ | refine gX ?_ | refine gT ?_ | refine gU ?_)))
local macro_rules | `(tactic| walk_at "m no") => `(tactic| fail_if_success (with_reducible first | refine gW ?_ | refine gF ?_ | refine gR ?_))
local macro_rules | `(tactic| walk_at "m w") => `(tactic| first | walk1 | (dsimp only; walk1))
local macro_rules | `(tactic| walk_at "m u") => `(tactic| (k_unfold; (try dsimp only)))
local macro_rules | `(tactic| walk_at "m e") => `(tactic| ((with_reducible refine wpAny_execs_cons ?_); (try dsimp only)))
local macro_rules | `(tactic| walk_at "m s") => `(tactic| ((fail_if_success (fail_if_success (with_reducible refine gS ?_))); (try k_gentoks); walk_at "m e"))
local macro_rules | `(tactic| walk_at "m c") => `(tactic| ((fail_if_success (fail_if_success (with_reducible refine gR ?_))); walk_at "m call"))
local macro_rules | `(tactic| walk_at "m call") => `(tactic| fail "no contract")
local macro_rules | `(tactic| walk_at "m go") => `(tactic| repeat' (first | walk_at "m u" | walk_at "m s" | walk_at "m c" | (walk_at "m no"; walk_at "m w")))
local macro_rules | `(tactic| walk_at "m go2") => `(tactic| repeat' (first | walk_at "m u" | walk_at "m s" | (walk_at "m no"; (fail_if_success (with_reducible refine gB (by decide) ?_)); walk_at "m w")))
local macro_rules | `(tactic| walk_at "m nl") => `(tactic| (walk_at "m no"; (fail_if_success (with_reducible first | refine gL ?_ | refine gI ?_ | refine gA ?_)); walk_at "m w"))
local macro_rules | `(tactic| walk_at "m stop") => `(tactic| with_reducible first | refine stopA (by assumption) ?_ | refine stopI (by assumption) ?_ | refine stopF (by assumption) ?_ | refine stopR (by assumption) ?_)
local macro_rules | `(tactic| walk_at "m goL") => `(tactic| repeat' ((fail_if_success walk_at "m stop"); (first | walk_at "m u" | walk_at "m s" | walk_at "m c" | walk_at "m nl")))
local macro_rules | `(tactic| walk_at "m goN") => `(tactic| repeat' ((fail_if_success walk_at "m stop"); (first | walk_at "m u" | walk_at "m e" | walk_at "m c" | walk_at "m nl")))
local macro_rules | `(tactic| walk_at "m ln") => `(tactic| ((try simp only [List.length_append, List.length_cons, List.length_nil, List.length_set]); omega))
local macro_rules | `(tactic| walk_at "m ent") => `(tactic| k_dflt refine' enter_def (by assumption) (by assumption) ?hN (by k_asm) (by k_asm) (by k_is) (by k_is) ?k8 (by exact BindsTo.of_eq rfl) (by exact locs rfl) ?_ (by exact rfl) (by exact rfl) (by exact rfl) (by decide))
local macro_rules | `(tactic| walk_at "m entC") => `(tactic| k_dflt refine' enter_defC (by assumption) (by assumption) ?hN (by k_asm) (by k_asm) (by k_is) (by k_is) ?k8 (by exact BindsTo.of_eq rfl) (by exact rfl) (by decide +kernel) ?_ (by exact rfl) (by exact rfl) (by exact rfl))
local macro_rules | `(tactic| walk_at "eval Name") => `(tactic| (k_here; k_dflt (refine' nmL (by exact rfl) (by exact rfl) (by decide) (by k_asm) (by k_asm) ?_; k_whole)))
local macro_rules | `(tactic| walk_at "subscriptTail Name Name ref int") => `(tactic| (k_here; walk_at "m is"; k_dflt (refine' m_item (by k_asm) (by k_mem) (by omega) (by omega) (by omega) ?_ (by with_unfolding_all rfl); k_whole); (try simp only [Int.toNat_natCast])))
local macro_rules | `(tactic| walk_at "binaryOp RShift int int") => `(tactic| (refine m_shr1 (by omega) ?_; intro t tk))
local macro_rules | `(tactic| walk_at "setItem ref int") => `(tactic| (k_here; k_dflt (refine' m_set (by k_asm) (by k_asm) (List.forall_mem_nil _) (by omega) (by omega) (by omega) ?_; k_whole); intro h' F' N'; (try simp only [Int.toNat_natCast] at N'); (try k_sweep)))
local macro_rules | `(tactic| walk_at "call builtin:len") => `(tactic| (k_here; walk_at "m is"; k_dflt (refine' m_len (by k_asm) (by k_mem) (by walk_at "m ln") ?_; k_whole); intro t tk))
local macro_rules | `(tactic| walk_at "truthy ref") => `(tactic| (k_here; walk_at "m is"; k_dflt (refine' m_truthy (by k_asm) (by k_mem) (by walk_at "m ln") ?_; k_whole); intro tk; (try simp only [List.isEmpty_cons, Bool.not_false])))
local macro_rules | `(tactic| walk_at "call builtin:list.pop") => `(tactic| (k_here; k_dflt (refine' m_pop (by k_asm) (by k_asm) (List.forall_mem_nil _) (by (simp only [List.length_append, List.length_cons, List.length_nil, List.length_set] at *; omega)) ?_; k_whole); intro h' F' N'; (try k_sweep)))
local macro_rules | `(tactic| walk_at "call builtin:list.append") => `(tactic| (k_here; walk_at "m is"; k_dflt (first | (refine' m_append2 (by k_asm) (by k_asm) (by (refine neN ?_; omega)) (by assumption) (by omega) ?_; k_whole) | (refine' m_append1 (by k_asm) (by k_asm) (by first | exact List.forall_mem_nil _ | assumption) (by omega) ?_; k_whole)); intro h' F' N'; (try k_sweep)))
local macro_rules | `(tactic| walk_at "assign Tuple") => `(tactic| (k_here; walk_at "m is"; k_dflt (refine' unpackN_ (by k_asm) (by k_asm) (by assumption) (by assumption) (by exact rfl) (by exact rfl) ?_; k_whole); intro h' F' N'; (try k_sweep)))
local macro_rules | `(tactic| k_all) => `(tactic| assumption)
local macro_rules | `(tactic| walk_at "m mm") => `(tactic| with_reducible repeat (first | assumption | exact List.mem_cons_self | exact List.mem_append_left _ (by assumption) | refine List.mem_cons_of_mem _ ?_ | refine List.mem_append_right _ ?_))
local macro_rules | `(tactic| walk_at "m me") => `(tactic| ((repeat (first | refine List.forall_mem_cons.mpr ⟨by walk_at "m mm", ?_⟩ | refine List.forall_mem_append.mpr ⟨by (intro _ _; walk_at "m mm"), ?_⟩)); intro _ _; walk_at "m mm"))
local macro_rules | `(tactic| walk_at "m b") => `(tactic| omega)
local macro_rules | `(tactic| walk_at "m rm") => `(tactic| exact Nat.lt_of_le_of_lt (Nat.le_add_right _ _) (room _))
local macro_rules | `(tactic| walk_at "m hp") => `(tactic| exact ⟨_, (News.get (by k_asm) (by k_mem)), rfl, _, rfl⟩)
local macro_rules | `(tactic| walk_at "m sz") => `(tactic| (k_dflt refine' size_K (by k_asm) (by k_asm) (by k_asm) (by k_asm) (by walk_at "m rm") (by walk_at "m hp") (by walk_at "m b") (by walk_at "m b") (by walk_at "m b") (by walk_at "m b") ?_; intro h' t tk F' N' hlt; (try clear hlt); (try k_sweep)))
section
-- part SD
noncomputable def JSD (gt : Heap) (H : Addr) (x : Value) (st : Nat) (res : List Value) (k : Nat) (m : Str → Option Value) (news : List (Addr × Obj)) : Prop :=
  ∃ (vs : List Value) (n : Nat) (ps : Nat) (t t' : Tok), m (Str.ofString "heap") = some (.ref H) ∧ m (Str.ofString "newitem") = some x ∧ m (Str.ofString "pos") = some (.int ps t) ∧ m (Str.ofString "startpos") = some (.int st t') ∧
    news = [(H, listOf vs.toArray n)] ∧ k = ps ∧ ps < vs.length ∧ vs.length < 1000 ∧ (∀ v ∈ vs, ∃ xs, TupAt gt v xs) ∧ sdLoop (ltv gt) .none x st ps vs ps = res

set_option maxRecDepth 100000 in
set_option maxHeartbeats 8000000 in
theorem siftdown_ok {w : World} {A : Around} {E : Value → Shared → Prop} {s : Shared} {g gt : Heap} {p : Program} {loose : List Str} {mean : ExcName → Option Value} {mg mb : Str → Option Value} {Q : Value → Shared → Prop}
    {H : Addr} {vs : List Value} {n st ps : Nat} {t1 t2 : Tok}
    (hgt : Sub gt g) (hg : Sub g s.heap) (hsz : g.objs.size ≤ s.heap.objs.size) (X : (hd.heap_1 w.params).In g) (T : Top p loose mean mg mb g) (hroom : A.depth < recursionLimit) (hu : A.units + 10 < cLine)
    (hl : s.heap.get? H = some (listOf vs.toArray n)) (hH : g.get? H = none) (hT : ∀ v ∈ vs, ∃ xs, TupAt gt v xs) (hst : st ≤ ps) (hps : ps < vs.length) (hlen : vs.length < 1000)
    (hQ : ∀ h' tk' n', Sub g h' → h'.get? H = some (listOf (sdown (ltv gt) .none vs st ps).toArray n') → Q .none { s with heap := h', toks := tk' }) :
    wpAny (model PG w) A (call (.ref 98) [.ref H, .int st t1, .int ps t2]) Q E s := by
  walk_at "m ent"
  case hN => exact (List.forall_mem_cons (a := (H, listOf vs.toArray n)) (l := [])).mpr ⟨⟨hl, hH⟩, List.forall_mem_nil _⟩
  case k8 => exact hroom
  intro L h F N l
  try dsimp only
  walk_at "m go"
  ·
    rename_i h' F' N'
    refine While_inv2 (JSD gt H (vs.getD ps .none) st (sdown (ltv gt) .none vs st ps)) F' N' ⟨vs, n, ps, t2, t1, rfl, rfl, rfl, rfl, rfl, rfl, hps, hlen, hT, rfl⟩ ?_ PassesOwn.never
    rintro k m₁ news₁ h₁ tk₁ F₁ N₁ ⟨vs₁, n₁, ps₁, ta, tb, e1, e2, e3, e4, rfl, rfl, hp₁, hl₁, hT₁, hres⟩
    have hx : ∃ xs, TupAt gt (vs.getD ps .none) xs := hT _ (getD_mem hps)
    walk_at "m go"
    · have h0 : st < k := Int.ofNat_lt.mp (by assumption)
      have kpos : 0 < k := Nat.lt_of_le_of_lt (Nat.zero_le _) h0
      have kh : (k - 1) / 2 < k := Nat.lt_of_le_of_lt (Nat.div_le_self _ _) (Nat.sub_lt kpos (by decide))
      have kl : (k - 1) / 2 < vs₁.length := Nat.lt_trans kh hp₁
      refine m_tlt (by k_asm) hgt hx (hT₁ _ (getD_mem kl)) (by show A.units + 3 < cLine; exact room1 hu (by decide)) ?_
      walk_at "m go"
      · show WhileStep2 _ _ _ _ _ _ Flow.cont _
        rename_i F' N'
        have hlt : ltv gt (vs.getD ps .none) (vs₁.getD ((k - 1) / 2) .none) = true := by assumption
        refine ⟨_, _, _, _, (k - 1) / 2, rfl, F', N', kh, _, _, (k - 1) / 2, _, tb, (by exact e1), (by exact e2), (by rfl), (by exact e4), rfl, rfl, by rw [List.length_set]; exact kl, by rw [List.length_set]; exact hl₁, ?_, ?_⟩
        · intro v hv
          rcases List.mem_or_eq_of_mem_set hv with hv | rfl
          · exact hT₁ v hv
          · exact hT₁ _ (getD_mem kl)
        · rw [← hres]
          obtain ⟨f, rfl⟩ : ∃ f, k = f + 1 := ⟨k - 1, (Nat.sub_add_cancel kpos).symm⟩
          rw [sdLoop, if_pos h0, if_pos hlt]
          exact sdLoop_fuel _ _ _ _ _ _ _ _ (Nat.le_refl _) (Nat.le_of_lt_succ kh)
      · show WhileStep2 _ _ _ _ _ _ Flow.brk _
        have hlt : ltv gt (vs.getD ps .none) (vs₁.getD ((k - 1) / 2) .none) = false := by assumption
        show wpAny _ _ (execs _ _) _ _ _
        walk_at "m go"
        refine hQ _ _ n₁ (Fr.keep (by k_asm)) (News.get (by k_asm) ?_)
        rw [← hres]
        obtain ⟨f, rfl⟩ : ∃ f, k = f + 1 := ⟨k - 1, (Nat.sub_add_cancel kpos).symm⟩
        rw [sdLoop, if_pos h0, if_neg (by simpa using hlt)]
        exact .head _
    · refine hQ _ _ n₁ (Fr.keep (by k_asm)) (News.get (by k_asm) ?_)
      have e : sdLoop (ltv gt) .none (vs.getD ps .none) st k vs₁ k = vs₁.set k (vs.getD ps .none) := by
        cases k with
        | zero => rfl
        | succ f => rw [sdLoop, if_neg (by omega)]
      rw [← hres, e]
      exact .head _
end
example {w : World} {A : Around} {E Q : Value → Shared → Prop} {s : Shared} (h : wpAny (model PySem.Challenge.pw_qu0043_01 w) A (call (.ref 0) []) Q E s) : wpAny (model PySem.Challenge.pw_qu0043_01 w) A (call (.ref 0) []) Q E s := by w_top off; first | (walk1; fail) | exact h
section
-- part SU
noncomputable def JSU (gt : Heap) (H : Addr) (x : Value) (st : Nat) (res : List Value × Nat) (k : Nat) (m : Str → Option Value) (news : List (Addr × Obj)) : Prop :=
  ∃ (vs : List Value) (n : Nat) (ps : Nat) (t t' t2 t3 : Tok), m (Str.ofString "heap") = some (.ref H) ∧ m (Str.ofString "newitem") = some x ∧ m (Str.ofString "pos") = some (.int ps t) ∧ m (Str.ofString "startpos") = some (.int st t') ∧
    m (Str.ofString "childpos") = some (.int (2 * (ps : Int) + 1) t2) ∧ m (Str.ofString "endpos") = some (.int vs.length t3) ∧
    news = [(H, listOf vs.toArray n)] ∧ k + ps = vs.length ∧ ps < vs.length ∧ st ≤ ps ∧ vs.length < 1000 ∧ (∀ v ∈ vs, ∃ xs, TupAt gt v xs) ∧ suLoop (ltv gt) .none k vs ps = res

/-- the loop's numbers at the turn from p to c -/
theorem su_num {k p l c st : Nat} (hk : k + p = l) (hp : p < c) (hc : c < l) (hs : st ≤ p) : l - c < k ∧ l - c + c = l ∧ st ≤ c ∧ ∃ f, k = f + 1 ∧ l ≤ f + c ∧ l ≤ l - c + c := by
  have e := Nat.sub_add_cancel (Nat.le_of_lt hc)
  refine ⟨Nat.lt_of_add_lt_add_right (n := c) ?_, e, Nat.le_trans hs (Nat.le_of_lt hp), k - 1, ?_, ?_, Nat.le_of_eq e.symm⟩
  · rw [e, ← hk]; exact Nat.add_lt_add_left hp k
  · cases k with
    | zero => rw [Nat.zero_add] at hk; exact absurd (hk ▸ hc) (Nat.not_lt.mpr (Nat.le_of_lt hp))
    | succ f => rfl
  · cases k with
    | zero => rw [Nat.zero_add] at hk; exact absurd (hk ▸ hc) (Nat.not_lt.mpr (Nat.le_of_lt hp))
    | succ f => rw [← hk, Nat.add_sub_cancel, Nat.succ_add_eq_add_succ]; exact Nat.add_le_add_left hp f
theorem su_lt1 (p : Nat) : p < 2 * p + 1 := Nat.lt_succ_of_le (Nat.le_mul_of_pos_left p (by decide))
theorem su_lt2 (p : Nat) : p < 2 * p + 2 := Nat.lt_succ_of_lt (su_lt1 p)
set_option maxRecDepth 100000 in
set_option maxHeartbeats 8000000 in
theorem siftup_ok {w : World} {A : Around} {E : Value → Shared → Prop} {s : Shared} {g gt : Heap} {p : Program} {loose : List Str} {mean : ExcName → Option Value} {mg mb : Str → Option Value} {Q : Value → Shared → Prop}
    {H : Addr} {vs : List Value} {n ps : Nat} {t2 : Tok}
    (hgt : Sub gt g) (hg : Sub g s.heap) (hsz : g.objs.size ≤ s.heap.objs.size) (X : (hd.heap_1 w.params).In g) (T : Top p loose mean mg mb g) (hroom : A.depth + 1 < recursionLimit) (hu : A.units + 20 < cLine)
    (hl : s.heap.get? H = some (listOf vs.toArray n)) (hH : g.get? H = none) (hT : ∀ v ∈ vs, ∃ xs, TupAt gt v xs) (hps : ps < vs.length) (hlen : vs.length < 1000)
    (hQ : ∀ h' tk' n', Sub g h' → h'.get? H = some (listOf (sup (ltv gt) .none vs ps).toArray n') → Q .none { s with heap := h', toks := tk' }) :
    wpAny (model PG w) A (call (.ref 105) [.ref H, .int ps t2]) Q E s := by
  walk_at "m ent"
  case hN => exact (List.forall_mem_cons (a := (H, listOf vs.toArray n)) (l := [])).mpr ⟨⟨hl, hH⟩, List.forall_mem_nil _⟩
  case k8 => exact Nat.lt_of_le_of_lt (Nat.le_add_right _ _) hroom
  intro L h F N l
  try dsimp only
  walk_at "m go"
  rename_i h' F' N'
  refine While_inv2 (JSU gt H (vs.getD ps .none) ps (suLoop (ltv gt) .none vs.length vs ps)) (n₀ := vs.length - ps) F' N' ⟨vs, n, ps, _, _, _, _, rfl, rfl, rfl, rfl, rfl, rfl, rfl, by omega, hps, Nat.le_refl _, hlen, hT, suLoop_fuel _ _ _ _ _ _ (by omega) (by omega)⟩ ?_ PassesOwn.never
  rintro k m₁ news₁ h₁ tk₁ F₁ N₁ ⟨vs₁, n₁, ps₁, ta, tb, tc, td, e1, e2, e3, e4, e5, e6, rfl, hk, hp₁, hst, hl₁, hT₁, hres⟩
  have ea : (2 * (ps₁ : Int) + 1).toNat = 2 * ps₁ + 1 := rfl
  have eb : (2 * (ps₁ : Int) + 1 + 1).toNat = 2 * ps₁ + 2 := rfl
  walk_at "m go"
  · rw [ea, eb]
    refine m_tlt (by k_asm) hgt (hT₁ _ (getD_mem (by omega))) (hT₁ _ (getD_mem (by omega))) (by show A.units + 3 < cLine; exact room1 hu (by decide)) ?_
    walk_at "m go"
    · have hlt : ltv gt (vs₁.getD (2 * ps₁ + 1) .none) (vs₁.getD (2 * ps₁ + 2) .none) = true := by assumption
      rename_i F' N'
      simp only [ea] at N'
      have hc : 2 * ps₁ + 1 < vs₁.length := Int.ofNat_lt.mp (show ((2 * ps₁ + 1 : Nat) : Int) < (vs₁.length : Int) by assumption)
      obtain ⟨u1, u2, u3, f, rfl, u4, u5⟩ := su_num hk (su_lt1 ps₁) hc hst
      refine ⟨_, _, _, _, vs₁.length - (2 * ps₁ + 1), rfl, F', N', u1, _, _, (2 * ps₁ + 1), _, tb, _, td, (by exact e1), (by exact e2), (int_eq _ rfl), (by exact e4), (int_eq _ rfl), (by rw [List.length_set]; exact e6), rfl, by rw [List.length_set]; exact u2, by rw [List.length_set]; exact hc, u3, by rw [List.length_set]; exact hl₁, set_ok hT₁ (hT₁ _ (getD_mem hc)), ?_⟩
      rw [← hres]
      rw [suLoop, if_pos hc, if_neg (by rw [hlt]; simp)]
      exact suLoop_fuel _ _ _ _ _ _ (by rw [List.length_set]; exact u5) (by rw [List.length_set]; exact u4)
    · have hlt : ltv gt (vs₁.getD (2 * ps₁ + 1) .none) (vs₁.getD (2 * ps₁ + 2) .none) = false := by assumption
      rename_i F' N'
      simp only [eb] at N'
      have hc : 2 * ps₁ + 2 < vs₁.length := Int.ofNat_lt.mp (show ((2 * ps₁ + 2 : Nat) : Int) < (vs₁.length : Int) by assumption)
      obtain ⟨u1, u2, u3, f, rfl, u4, u5⟩ := su_num hk (su_lt2 ps₁) hc hst
      refine ⟨_, _, _, _, vs₁.length - (2 * ps₁ + 2), rfl, F', N', u1, _, _, (2 * ps₁ + 2), _, tb, _, td, (by exact e1), (by exact e2), (int_eq _ rfl), (by exact e4), (int_eq _ rfl), (by rw [List.length_set]; exact e6), rfl, by rw [List.length_set]; exact u2, by rw [List.length_set]; exact hc, u3, by rw [List.length_set]; exact hl₁, set_ok hT₁ (hT₁ _ (getD_mem hc)), ?_⟩
      rw [← hres]
      rw [suLoop, if_pos (Nat.lt_of_succ_lt hc), if_pos (by rw [hlt]; simp only [Bool.not_false, Bool.and_true, decide_eq_true_eq]; exact hc)]
      exact suLoop_fuel _ _ _ _ _ _ (by rw [List.length_set]; exact u5) (by rw [List.length_set]; exact u4)
  · rename_i F' N'
    simp only [ea] at N'
    have hc : 2 * ps₁ + 1 < vs₁.length := Int.ofNat_lt.mp (show ((2 * ps₁ + 1 : Nat) : Int) < (vs₁.length : Int) by assumption)
    obtain ⟨u1, u2, u3, f, rfl, u4, u5⟩ := su_num hk (su_lt1 ps₁) hc hst
    refine ⟨_, _, _, _, vs₁.length - (2 * ps₁ + 1), rfl, F', N', u1, _, _, (2 * ps₁ + 1), _, tb, _, td, (by exact e1), (by exact e2), (int_eq _ rfl), (by exact e4), (int_eq _ rfl), (by rw [List.length_set]; exact e6), rfl, by rw [List.length_set]; exact u2, by rw [List.length_set]; exact hc, u3, by rw [List.length_set]; exact hl₁, set_ok hT₁ (hT₁ _ (getD_mem hc)), ?_⟩
    rw [← hres]
    rw [suLoop, if_pos hc, if_neg (by simp; omega)]
    exact suLoop_fuel _ _ _ _ _ _ (by rw [List.length_set]; exact u5) (by rw [List.length_set]; exact u4)
  · rename_i h₂ F₂ N₂
    refine siftdown_ok hgt F₂.keep (Nat.le_trans F₂.above (Nat.le_of_lt (Fr.lt F₂))) X T (by show A.depth + 1 < recursionLimit; exact room1 hroom (by decide)) (by show A.units + 3 + 10 < cLine; exact room2 hu (by decide)) (News.get N₂ (.head _)) hH (set_ok hT₁ (hT _ (getD_mem hps))) hst (by rw [List.length_set]; omega) (by rw [List.length_set]; omega) ?_
    intro h₃ tk₃ n₃ hs₃ hl₃
    walk_at "m go"
    refine hQ _ _ n₃ hs₃ ?_
    have e : suLoop (ltv gt) .none k vs₁ ps₁ = (vs₁, ps₁) := by
      cases k with
      | zero => rfl
      | succ f => rw [suLoop, if_neg (by omega)]
    rw [e] at hres
    unfold sup
    rw [← hres]
    exact hl₃
end
example {w : World} {A : Around} {E Q : Value → Shared → Prop} {s : Shared} (h : wpAny (model PySem.Challenge.pw_qu0043_01 w) A (call (.ref 0) []) Q E s) : wpAny (model PySem.Challenge.pw_qu0043_01 w) A (call (.ref 0) []) Q E s := by w_top off; first | (walk1; fail) | exact h
section
-- part HP
noncomputable def hpush {α : Type} (lt : α → α → Bool) (d : α) (xs : List α) (x : α) : List α := sdown lt d (xs ++ [x]) 0 xs.length

set_option maxRecDepth 100000 in
set_option maxHeartbeats 8000000 in
theorem heappush_ok {w : World} {A : Around} {E : Value → Shared → Prop} {s : Shared} {g gt : Heap} {p : Program} {loose : List Str} {mean : ExcName → Option Value} {mg mb : Str → Option Value} {Q : Value → Shared → Prop}
    {H : Addr} {vs : List Value} {n : Nat} {x : Value}
    (hgt : Sub gt g) (hg : Sub g s.heap) (hsz : g.objs.size ≤ s.heap.objs.size) (X : (hd.heap_1 w.params).In g) (T : Top p loose mean mg mb g) (hroom : A.depth + 1 < recursionLimit) (hu : A.units + 20 < cLine)
    (hl : s.heap.get? H = some (listOf vs.toArray n)) (hH : g.get? H = none) (hT : ∀ v ∈ vs, ∃ xs, TupAt gt v xs) (hx : ∃ xs, TupAt gt x xs) (hlen : vs.length < 500)
    (hQ : ∀ h' tk' n', Sub g h' → h'.get? H = some (listOf (hpush (ltv gt) .none vs x).toArray n') → Q .none { s with heap := h', toks := tk' }) :
    wpAny (model PG w) A (call (.ref 77) [.ref H, x]) Q E s := by
  walk_at "m ent"
  case hN => exact (List.forall_mem_cons (a := (H, listOf vs.toArray n)) (l := [])).mpr ⟨⟨hl, hH⟩, List.forall_mem_nil _⟩
  case k8 => exact Nat.lt_of_le_of_lt (Nat.le_add_right _ _) hroom
  intro L h F N l
  try dsimp only
  walk_at "m go"
  have e : (((vs ++ [x]).length : Nat) : Int) - 1 = ((vs.length : Nat) : Int) := by simp
  rw [e]
  refine siftdown_ok (st := 0) (vs := vs ++ [x]) (n := n + 1) hgt (Fr.keep (by k_asm)) (Fr.size (by k_asm)) X T (by show A.depth + 1 < recursionLimit; exact room1 hroom (by decide)) (by show A.units + 3 + 10 < cLine; exact room2 hu (by decide)) (News.get (by k_asm) (.head _)) hH (app_ok hT hx) (Nat.zero_le _) (by simp) (by simp; omega) ?_
  intro h₃ tk₃ n₃ hs₃ hl₃
  walk_at "m go"
  exact hQ _ _ n₃ hs₃ hl₃

set_option maxRecDepth 100000 in
set_option maxHeartbeats 8000000 in
theorem heappop_ok {w : World} {A : Around} {E : Value → Shared → Prop} {s : Shared} {g gt : Heap} {p : Program} {loose : List Str} {mean : ExcName → Option Value} {mg mb : Str → Option Value} {Q : Value → Shared → Prop}
    {H : Addr} {x y : Value} {vs : List Value} {n : Nat}
    (hgt : Sub gt g) (hg : Sub g s.heap) (hsz : g.objs.size ≤ s.heap.objs.size) (X : (hd.heap_1 w.params).In g) (T : Top p loose mean mg mb g) (hroom : A.depth + 2 < recursionLimit) (hu : A.units + 30 < cLine)
    (hl : s.heap.get? H = some (listOf ((x :: vs) ++ [y]).toArray n)) (hH : g.get? H = none) (hT : ∀ v ∈ (x :: vs) ++ [y], ∃ xs, TupAt gt v xs) (hlen : vs.length < 500)
    (hQ : ∀ h' tk' n', Sub g h' → h'.get? H = some (listOf (sup (ltv gt) .none (y :: vs) 0).toArray n') → Q x { s with heap := h', toks := tk' }) :
    wpAny (model PG w) A (call (.ref 84) [.ref H]) Q E s := by
  walk_at "m ent"
  case hN => exact (List.forall_mem_cons (a := (H, listOf ((x :: vs) ++ [y]).toArray n)) (l := [])).mpr ⟨⟨hl, hH⟩, List.forall_mem_nil _⟩
  case k8 => exact Nat.lt_of_le_of_lt (Nat.le_add_right _ _) hroom
  intro L h F N l
  try dsimp only
  walk_at "m go"
  rename_i h' F' N'
  refine siftup_ok (g := h'.hide H) (ps := 0) (vs := y :: vs) (n := n + 1) (Sub.trans hgt (hide_above F' N')) hide_sub (Nat.le_of_eq (Heap.hide_size _ _)) (X.keeps (hide_above F' N')) (T.keeps (hide_above F' N')) (by show A.depth + 1 + 1 < recursionLimit; exact room2 hroom (by decide)) (by show A.units + 3 + 20 < cLine; exact room2 hu (by decide)) (News.get N' (.head _)) (Heap.hide_self _ _) ?_ (Nat.succ_pos _) (by simp; omega) ?_
  · intro v hv
    rcases List.mem_cons.mp hv with rfl | hv
    · exact hT _ (List.mem_append.mpr (.inr (.head _)))
    · exact hT _ (List.mem_append.mpr (.inl (.tail _ hv)))
  · intro h₃ tk₃ n₃ hs₃ hl₃
    obtain ⟨F₃, N₃⟩ := hide_back F' N' (fun _ h => nomatch h) hs₃ hl₃
    clear F' N'
    walk_at "m go"
    exact hQ _ _ n₃ F₃.keep hl₃
end
example {w : World} {A : Around} {E Q : Value → Shared → Prop} {s : Shared} (h : wpAny (model PySem.Challenge.pw_qu0043_01 w) A (call (.ref 0) []) Q E s) : wpAny (model PySem.Challenge.pw_qu0043_01 w) A (call (.ref 0) []) Q E s := by w_top off; first | (walk1; fail) | exact h
section
-- part HF
theorem m_len6 {prog : Program} {w : World} {A : Around} {E : Value → Shared → Prop} {s : Shared} {h₀ : Heap} {L D : Addr} {news : List (Addr × Obj)} {vs : List Value} {n : Nat} {Q : Value → Shared → Prop} (N : News h₀ L s.heap news) (hm : (D, listOf vs.toArray n) ∈ news) (hl : vs.length = 6) (h : ∀ t tk, Q (.int 6 t) { s with toks := tk }) :
    wpAny (model prog w) A (call (.builtin "len") [.ref D]) Q E s := m_len N hm (by omega) (by rw [hl]; exact h)
local macro_rules | `(tactic| walk_at "call builtin:len") => `(tactic| (k_here; walk_at "m is"; k_dflt (refine' m_len6 (by k_asm) (by k_mem) (by assumption) ?_; k_whole); intro t tk))
noncomputable def hfyN {α : Type} (lt : α → α → Bool) (d : α) (xs : List α) : Nat → List α
  | 0 => xs
  | i + 1 => sup lt d (hfyN lt d xs i) (2 - i)
noncomputable def JHF (gt : Heap) (H : Addr) (vs : List Value) (k : Nat) (m : Str → Option Value) (news : List (Addr × Obj)) : Prop :=
  ∃ n, m (Str.ofString "x") = some (.ref H) ∧ news = [(H, listOf (hfyN (ltv gt) .none vs k).toArray n)]
theorem sdown_mem {α : Type} {lt : α → α → Bool} {d : α} {xs : List α} {st ps : Nat} (P : α → Prop) (hps : ps < xs.length) (h : ∀ v ∈ xs, P v) : ∀ v ∈ sdown lt d xs st ps, P v := by
  have set : ∀ {ys : List α} {i : Nat} {y : α}, (∀ v ∈ ys, P v) → P y → ∀ v ∈ ys.set i y, P v := fun h1 h2 v hv => by
    rcases List.mem_or_eq_of_mem_set hv with hv | rfl
    · exact h1 v hv
    · exact h2
  have key : ∀ (f : Nat) (ys : List α) (p : Nat), p < ys.length → (∀ v ∈ ys, P v) → ∀ v ∈ sdLoop lt d (xs.getD ps d) st f ys p, P v := by
    intro f
    induction f with
    | zero => intro ys p _ h1; exact set h1 (h _ (getD_mem hps))
    | succ f ih =>
      intro ys p hp h1
      unfold sdLoop
      split
      · split
        · exact ih _ _ (by rw [List.length_set]; omega) (set h1 (h1 _ (getD_mem (by omega))))
        · exact set h1 (h _ (getD_mem hps))
      · exact set h1 (h _ (getD_mem hps))
  exact key _ _ _ hps h
theorem sdown_length {α : Type} {lt : α → α → Bool} {d : α} {xs : List α} {st ps : Nat} : (sdown lt d xs st ps).length = xs.length := sdLoop_length ..
theorem suLoop_spec {α : Type} {lt : α → α → Bool} {d : α} (P : α → Prop) : ∀ (f : Nat) (ys : List α) (p : Nat), p < ys.length → (∀ v ∈ ys, P v) → (suLoop lt d f ys p).1.length = ys.length ∧ (suLoop lt d f ys p).2 < ys.length ∧ ∀ v ∈ (suLoop lt d f ys p).1, P v := by
  have set : ∀ {ys : List α} {i : Nat} {y : α}, (∀ v ∈ ys, P v) → P y → ∀ v ∈ ys.set i y, P v := fun h1 h2 v hv => by
    rcases List.mem_or_eq_of_mem_set hv with hv | rfl
    · exact h1 v hv
    · exact h2
  intro f
  induction f with
  | zero => intro ys p hp h; exact ⟨rfl, hp, h⟩
  | succ f ih =>
    intro ys p hp h
    unfold suLoop
    split
    · split
      · rename_i h1 h2
        have h3 : 2 * p + 2 < ys.length := by simp at h2; omega
        have z := ih (ys.set p (ys.getD (2 * p + 2) d)) (2 * p + 2) (by rw [List.length_set]; omega) (set h (h _ (getD_mem h3)))
        rw [List.length_set] at z
        exact z
      · rename_i h1 h2
        have z := ih (ys.set p (ys.getD (2 * p + 1) d)) (2 * p + 1) (by rw [List.length_set]; omega) (set h (h _ (getD_mem h1)))
        rw [List.length_set] at z
        exact z
    · exact ⟨rfl, hp, h⟩
theorem sup_length {α : Type} {lt : α → α → Bool} {d : α} {xs : List α} {p : Nat} (hp : p < xs.length) : (sup lt d xs p).length = xs.length := by
  unfold sup
  dsimp only
  rw [sdown_length, List.length_set]
  exact (suLoop_spec (fun _ => True) _ _ _ hp fun _ _ => trivial).1
theorem sup_mem {α : Type} {lt : α → α → Bool} {d : α} {xs : List α} {p : Nat} (P : α → Prop) (hp : p < xs.length) (h : ∀ v ∈ xs, P v) : ∀ v ∈ sup lt d xs p, P v := by
  have z := suLoop_spec (lt := lt) (d := d) P xs.length _ _ hp h
  unfold sup
  dsimp only
  refine sdown_mem P (by rw [List.length_set, z.1]; exact z.2.1) fun v hv => ?_
  rcases List.mem_or_eq_of_mem_set hv with hv | rfl
  · exact z.2.2 v hv
  · exact h _ (getD_mem hp)
theorem hfyN_ok {α : Type} {lt : α → α → Bool} {d : α} {xs : List α} (P : α → Prop) (h6 : xs.length = 6) (h : ∀ v ∈ xs, P v) : ∀ k, (hfyN lt d xs k).length = 6 ∧ ∀ v ∈ hfyN lt d xs k, P v
  | 0 => ⟨h6, h⟩
  | k + 1 => by
    have ih := hfyN_ok (lt := lt) (d := d) P h6 h k
    unfold hfyN
    exact ⟨by rw [sup_length (by omega)]; exact ih.1, sup_mem P (by omega) ih.2⟩
set_option maxRecDepth 100000 in
set_option maxHeartbeats 8000000 in
theorem heapify_ok {w : World} {A : Around} {E : Value → Shared → Prop} {s : Shared} {g gt : Heap} {p : Program} {loose : List Str} {mean : ExcName → Option Value} {mg mb : Str → Option Value} {Q : Value → Shared → Prop}
    {H : Addr} {vs : List Value} {n : Nat}
    (hgt : Sub gt g) (hg : Sub g s.heap) (hsz : g.objs.size ≤ s.heap.objs.size) (X : (hd.heap_1 w.params).In g) (T : Top p loose mean mg mb g) (hroom : A.depth + 2 < recursionLimit) (hu : A.units + 30 < cLine) (hh : A.handled = none)
    (hl : s.heap.get? H = some (listOf vs.toArray n)) (hH : g.get? H = none) (hT : ∀ v ∈ vs, ∃ xs, TupAt gt v xs) (hlen : vs.length = 6)
    (hQ : ∀ h' tk' n', Sub g h' → h'.get? H = some (listOf (hfyN (ltv gt) .none vs 3).toArray n') → Q .none { s with heap := h', toks := tk' }) :
    wpAny (model PG w) A (call (.ref 91) [.ref H]) Q E s := by
  walk_at "m ent"
  case hN => exact (List.forall_mem_cons (a := (H, listOf vs.toArray n)) (l := [])).mpr ⟨⟨hl, hH⟩, List.forall_mem_nil _⟩
  case k8 => exact Nat.lt_of_le_of_lt (Nat.le_add_right _ _) hroom
  intro L h F N l
  try dsimp only
  walk_at "m go"
  iterate 16 walk1
  rename_i h₁ F₁ N₁ h' tk t₁ u₁ v₁ hR F₂ N₂ hk
  have hR' : IsRange h' h₁.objs.size 0 ((3 : Nat) : Int) 1 t₁ u₁ v₁ := hR
  have hLt := Fr.lt F₂
  refine call_reversed_range hR' (by omega) ?_
  have hI : IsRangeIter (h'.push (rangeIterObj (((3 : Nat) : Int) - 1) ((3 : Nat) : Int) (-1))) h'.objs.size (((3 : Nat) : Int) - 1) ((3 : Nat) : Int) (-1) := Heap.get?_push_size _ rfl
  refine wpAny_pyIter_rangeiter hI ?_
  have hI0 : g.get? h'.objs.size = none := by
    cases q : g.get? h'.objs.size with
    | none => rfl
    | some o => exact absurd (Heap.lt_size (F₂.keep _ _ q)) (Nat.lt_irrefl _)
  refine loop_rangeI (n := 3) (news := [(H, listOf vs.toArray n)]) (JHF gt H vs) hh hI (Nat.ne_of_gt hLt) hI0 ?_ (F₂.push _) (fun p hp => ⟨Heap.get?_push_of_some _ (N₂ p hp).1, (N₂ p hp).2⟩) ⟨n, rfl, rfl⟩ ?_ ?_
  · intro p hp q
    exact absurd (Heap.lt_size (N₂ p hp).1) (by rw [q]; exact Nat.lt_irrefl _)
  · rintro i t m₁ news₁ h₂ tk₂ io hi ⟨n₁, e1, rfl⟩ hne F₃ N₃
    have ok := hfyN_ok (lt := ltv gt) (d := .none) (fun v => ∃ xs, TupAt gt v xs) hlen hT i
    walk_at "m go"
    have e : (((3 : Nat) : Int) - 1 + (i : Int) * -1) = ((2 - i : Nat) : Int) := by omega
    rw [e]
    have N₄ := News.swap N₃
    have hne' : h'.objs.size ≠ H := Ne.symm (hne _ (.head _))
    refine siftup_ok (g := h₂.hide H) (ps := 2 - i) (Sub.trans hgt (hide_above F₃ N₄)) hide_sub (Nat.le_of_eq (Heap.hide_size _ _)) (X.keeps (hide_above F₃ N₄)) (T.keeps (hide_above F₃ N₄)) (by show A.depth + 1 + 1 < recursionLimit; exact room2 hroom (by decide)) (by show A.units + 3 + 20 < cLine; exact room2 hu (by decide)) (News.get N₄ (.head _)) (Heap.hide_self _ _) ok.2 (by omega) (by omega) ?_
    intro h₃ tk₃ n₃ hs₃ hl₃
    obtain ⟨F₅, N₅⟩ := hide_back F₃ N₄ (fun p hp => by rw [List.mem_singleton.mp hp]; exact hne') hs₃ hl₃
    clear F₃ N₃ N₄
    walk_at "m go"
    exact ⟨_, _, _, [(H, _)], rfl, F₅, News.swap N₅, (fun p hp => by rw [List.mem_singleton.mp hp]; exact Ne.symm hne'), n₃, by exact e1, rfl⟩
  · rintro h₂ tk₂ m₂ news₂ F₃ N₃ ⟨n₂, e1, rfl⟩
    walk_at "m go"
    exact hQ _ _ n₂ F₃.keep (News.get N₃ (.head _))
end
example {w : World} {A : Around} {E Q : Value → Shared → Prop} {s : Shared} (h : wpAny (model PySem.Challenge.pw_qu0043_01 w) A (call (.ref 0) []) Q E s) : wpAny (model PySem.Challenge.pw_qu0043_01 w) A (call (.ref 0) []) Q E s := by w_top off; first | (walk1; fail) | exact h
-- part Nat1
section
section
variable {α β : Type} {lt : α → α → Bool} {lt' : β → β → Bool} {d : α} {f : α → β}
theorem getD_map (f : α → β) (d : α) : ∀ (xs : List α) (i : Nat), (xs.map f).getD i (f d) = f (xs.getD i d)
  | [], _ => rfl
  | _ :: _, 0 => rfl
  | _ :: xs, i + 1 => by simpa using getD_map f d xs i
theorem sdLoop_map (h : ∀ a b, lt a b = lt' (f a) (f b)) (x : α) (st : Nat) : ∀ (k : Nat) (xs : List α) (p : Nat), (sdLoop lt d x st k xs p).map f = sdLoop lt' (f d) (f x) st k (xs.map f) p
  | 0, xs, p => by simp [sdLoop, List.map_set]
  | k + 1, xs, p => by
    unfold sdLoop
    rw [getD_map, ← h]
    split
    · split
      · rw [sdLoop_map h x st k, List.map_set]
      · rw [List.map_set]
    · rw [List.map_set]
theorem sdown_map (h : ∀ a b, lt a b = lt' (f a) (f b)) (xs : List α) (st p : Nat) : (sdown lt d xs st p).map f = sdown lt' (f d) (xs.map f) st p := by
  unfold sdown
  rw [sdLoop_map h, getD_map]
theorem suLoop_map (h : ∀ a b, lt a b = lt' (f a) (f b)) : ∀ (k : Nat) (xs : List α) (p : Nat), suLoop lt' (f d) k (xs.map f) p = ((suLoop lt d k xs p).1.map f, (suLoop lt d k xs p).2)
  | 0, xs, p => rfl
  | k + 1, xs, p => by
    unfold suLoop
    rw [getD_map, getD_map, ← h, List.length_map]
    split
    · split
      · rw [← List.map_set, suLoop_map h k]
      · rw [← List.map_set, suLoop_map h k]
    · rfl
theorem sup_map (h : ∀ a b, lt a b = lt' (f a) (f b)) (xs : List α) (p : Nat) : (sup lt d xs p).map f = sup lt' (f d) (xs.map f) p := by
  unfold sup
  dsimp only
  rw [sdown_map h, List.map_set, List.length_map, suLoop_map h, getD_map]
theorem hfyN_map (h : ∀ a b, lt a b = lt' (f a) (f b)) (xs : List α) : ∀ k, (hfyN lt d xs k).map f = hfyN lt' (f d) (xs.map f) k
  | 0 => rfl
  | k + 1 => by
    unfold hfyN
    rw [sup_map h, hfyN_map h xs k]
theorem hpush_map (h : ∀ a b, lt a b = lt' (f a) (f b)) (xs : List α) (x : α) : (hpush lt d xs x).map f = hpush lt' (f d) (xs.map f) (f x) := by
  unfold hpush
  rw [sdown_map h, List.map_append, List.length_map]
  rfl
end
theorem ltv_rd (h : Heap) (a b : Value) : ltv h a b = lexLt (rd h a) (rd h b) := rfl
theorem all2_rd {tups : List (Addr × Obj)} {h : Heap} (H : ∀ p ∈ tups, h.get? p.1 = some p.2) : ∀ {vs : List Value} {es : List (List Int)}, All2 (TupN tups) vs es → vs.map (rd h) = es
  | _, _, .nil => rfl
  | _, _, .cons r t => by rw [List.map_cons, all2_rd H t, rd_eq (r.at H)]
theorem all2_of {tups : List (Addr × Obj)} {h : Heap} (H : ∀ p ∈ tups, h.get? p.1 = some p.2) : ∀ {vs : List Value}, (∀ v ∈ vs, ∃ xs, TupN tups v xs) → All2 (TupN tups) vs (vs.map (rd h))
  | [], _ => .nil
  | v :: vs, hv => by
    obtain ⟨xs, hx⟩ := hv v (.head _)
    refine .cons ?_ (all2_of H fun u hu => hv u (.tail _ hu))
    rw [rd_eq (hx.at H)]; exact hx
theorem all2_mem {tups : List (Addr × Obj)} {vs : List Value} {es : List (List Int)} (h : All2 (TupN tups) vs es) : ∀ v ∈ vs, ∃ xs, TupN tups v xs := fun v hv => by
  obtain ⟨b, _, r⟩ := h.left v hv
  exact ⟨b, r⟩
theorem hpush_mem {α : Type} {lt : α → α → Bool} {d : α} {xs : List α} {x : α} (P : α → Prop) (h : ∀ v ∈ xs, P v) (hx : P x) : ∀ v ∈ hpush lt d xs x, P v := by
  unfold hpush
  refine sdown_mem P (by simp) fun v hv => ?_
  rcases List.mem_append.mp hv with hv | hv
  · exact h v hv
  · rw [List.mem_singleton.mp hv]; exact hx
theorem hpush_length {α : Type} {lt : α → α → Bool} {d : α} {xs : List α} {x : α} : (hpush lt d xs x).length = xs.length + 1 := by
  unfold hpush
  rw [sdown_length]; simp
/-- a permuting step, from values to ints -/
theorem all2_sup {tups : List (Addr × Obj)} {h : Heap} (H : ∀ p ∈ tups, h.get? p.1 = some p.2) {vs : List Value} {es : List (List Int)} (a : All2 (TupN tups) vs es) {p : Nat} (hp : p < vs.length) : All2 (TupN tups) (sup (ltv h) .none vs p) (sup lexLt [] es p) := by
  have z := all2_of H (sup_mem (lt := ltv h) (d := .none) (fun v => ∃ xs, TupN tups v xs) hp (all2_mem a))
  rw [sup_map (lt' := lexLt) (ltv_rd h), rd_none, all2_rd H a] at z
  exact z
theorem all2_hfy {tups : List (Addr × Obj)} {h : Heap} (H : ∀ p ∈ tups, h.get? p.1 = some p.2) {vs : List Value} {es : List (List Int)} (a : All2 (TupN tups) vs es) (h6 : vs.length = 6) (k : Nat) : All2 (TupN tups) (hfyN (ltv h) .none vs k) (hfyN lexLt [] es k) := by
  have z := all2_of H (hfyN_ok (lt := ltv h) (d := .none) (fun v => ∃ xs, TupN tups v xs) h6 (all2_mem a) k).2
  rw [hfyN_map (lt' := lexLt) (ltv_rd h), rd_none, all2_rd H a] at z
  exact z
theorem all2_push {tups : List (Addr × Obj)} {h : Heap} (H : ∀ p ∈ tups, h.get? p.1 = some p.2) {vs : List Value} {es : List (List Int)} (a : All2 (TupN tups) vs es) {x : Value} {e : List Int} (hx : TupN tups x e) : All2 (TupN tups) (hpush (ltv h) .none vs x) (hpush lexLt [] es e) := by
  have z := all2_of H (hpush_mem (lt := ltv h) (d := .none) (fun v => ∃ xs, TupN tups v xs) (all2_mem a) ⟨_, hx⟩)
  rw [hpush_map (lt' := lexLt) (ltv_rd h), rd_none, all2_rd H a, rd_eq (hx.at H)] at z
  exact z
end
-- part Met
section
noncomputable def starts : List (List Int) := [[0, 1, 0, 0], [1, 0, 0, 0], [1, 1, 0, 0], [-1, 1, 0, 1], [1, 2, 0, 1], [2, 1, 1, 0]]
noncomputable def entry (r g b : Int) : List Int → List Int
  | [x, y, u, v] => [size r g b x y, x, y, u, v]
  | _ => []
theorem entry4 {r g b x y u v : Int} : entry r g b [x, y, u, v] = [size r g b x y, x, y, u, v] := rfl
theorem starts_ok : ∀ xs ∈ starts, ∃ x y u v : Int, xs = [x, y, u, v] ∧ -10 < x ∧ x < 10 ∧ -10 < y ∧ y < 10 := by
  intro xs h
  simp only [starts, List.mem_cons, List.not_mem_nil, or_false] at h
  rcases h with rfl | rfl | rfl | rfl | rfl | rfl <;> exact ⟨_, _, _, _, rfl, by decide, by decide, by decide, by decide⟩
noncomputable def popP : List (List Int) → List Int × List (List Int)
  | [] => ([], [])
  | e :: es => (e, sup lexLt [] (es.getLastD [] :: es.dropLast) 0)
noncomputable def stepM (r g b : Int) (st : List (List Int) × List (List Int)) : List (List Int) × List (List Int) :=
  match (popP st.1).1 with
  | [s, x, y, u, v] =>
    (if u = 0 ∧ v = 0 then (popP st.1).2 else
      hpush lexLt [] (hpush lexLt [] (popP st.1).2 (entry r g b [x + u, y + v, u, v])) (entry r g b [2 * x - u, 2 * y - v, x - u, y - v]), st.2 ++ [[s, x, y, u, v]])
  | _ => st
noncomputable def iterM (r g b : Int) : Nat → List (List Int) × List (List Int) → List (List Int) × List (List Int)
  | 0, st => st
  | j + 1, st => stepM r g b (iterM r g b j st)
noncomputable def initM (r g b : Int) : List (List Int) × List (List Int) := (hfyN lexLt [] (starts.map (entry r g b)) 3, [])
noncomputable def metP (r g b : Int) : List (List Int) := (iterM r g b 8 (initM r g b)).2
noncomputable def goodT : List Int → Bool
  | [_, x, y, u, v] => decide (-1000 < x) && decide (x < 1000) && decide (-1000 < y) && decide (y < 1000) && decide (-1000 < u) && decide (u < 1000) && decide (-1000 < v) && decide (v < 1000)
  | _ => false
noncomputable def goodS (es : List (List Int)) : Bool := decide (2 ≤ es.length) && decide (es.length < 100) && es.all goodT
theorem goodT_spec {e : List Int} (h : goodT e = true) : ∃ s x y u v : Int, e = [s, x, y, u, v] ∧ -1000 < x ∧ x < 1000 ∧ -1000 < y ∧ y < 1000 ∧ -1000 < u ∧ u < 1000 ∧ -1000 < v ∧ v < 1000 := by
  unfold goodT at h
  split at h
  · simp only [Bool.and_eq_true, decide_eq_true_eq] at h
    exact ⟨_, _, _, _, _, rfl, by omega, by omega, by omega, by omega, by omega, by omega, by omega, by omega⟩
  · cases h
theorem goodS_spec {es : List (List Int)} (h : goodS es = true) : 2 ≤ es.length ∧ es.length < 100 ∧ ∀ e ∈ es, goodT e = true := by
  unfold goodS at h
  simp only [Bool.and_eq_true, decide_eq_true_eq, List.all_eq_true] at h
  exact ⟨h.1.1, h.1.2, h.2⟩
theorem split2 {α : Type} : ∀ {xs : List α}, 2 ≤ xs.length → ∃ x us y, xs = (x :: us) ++ [y]
  | [], h => by simp at h
  | [_], h => by simp at h
  | x :: y :: r, _ => by
    refine ⟨x, (y :: r).dropLast, (y :: r).getLast (by simp), ?_⟩
    rw [List.cons_append, List.dropLast_concat_getLast]
theorem All2.split {α β : Type} {R : α → β → Prop} {us : List α} : ∀ {y : α} {es : List β}, All2 R (us ++ [y]) es → ∃ eus ey, es = eus ++ [ey] ∧ All2 R us eus ∧ R y ey := by
  induction us with
  | nil => intro y es h; cases h with | cons r t => cases t; exact ⟨[], _, rfl, .nil, r⟩
  | cons a us ih =>
    intro y es h
    cases h with
    | cons r t =>
      obtain ⟨eus, ey, e, h1, h2⟩ := ih t
      subst e
      exact ⟨_ :: eus, ey, rfl, .cons r h1, h2⟩
theorem popP_eq (e : List Int) (es : List (List Int)) (y : List Int) : popP ((e :: es) ++ [y]) = (e, sup lexLt [] (y :: es) 0) := by
  rw [List.cons_append]
  unfold popP
  simp
end
section
-- part LF
local macro_rules | `(tactic| walk_at "m rm") => `(tactic| (simp only [depth_deeper]; omega))
local macro_rules | `(tactic| walk_at "m hp") => `(tactic| exact PyProof.Rows.Fr.lst (by k_asm) (by assumption))
local macro_rules | `(tactic| walk_at "m call") => `(tactic| walk_at "m sz")
noncomputable def JLF (P H : Addr) (r g b : Int) (lits : List (Addr × Obj)) (i : Nat) (m : Str → Option Value) (news : List (Addr × Obj)) : Prop :=
  ∃ (vs : List Value) (n : Nat) (tups : List (Addr × Obj)) (tp : Tok), m (Str.ofString "heap") = some (.ref H) ∧ m (Str.ofString "parts") = some (.ref P) ∧ m (Str.ofString "count") = some (.int 8 tp) ∧
    news = (H, listOf vs.toArray n) :: tups ∧ (∀ p ∈ tups, p.1 ≠ H) ∧ (∀ p ∈ lits, p ∈ tups) ∧ All2 (TupN tups) vs ((starts.take i).map (entry r g b)) ∧ vs.length < 100 - 10 + i

noncomputable def JLM (P H M : Addr) (r g b : Int) (k : Nat) (m : Str → Option Value) (news : List (Addr × Obj)) : Prop :=
  ∃ (j : Nat) (vs ms : List Value) (n n' : Nat) (tups : List (Addr × Obj)) (tp : Tok), m (Str.ofString "heap") = some (.ref H) ∧ m (Str.ofString "met") = some (.ref M) ∧ m (Str.ofString "parts") = some (.ref P) ∧ m (Str.ofString "count") = some (.int 8 tp) ∧
    news = (H, listOf vs.toArray n) :: (M, listOf ms.toArray n') :: tups ∧ H ≠ M ∧ (∀ p ∈ tups, p.1 ≠ H ∧ p.1 ≠ M) ∧ k + j = 8 ∧
    All2 (TupN tups) vs (iterM r g b j (initM r g b)).1 ∧ All2 (TupN tups) ms (iterM r g b j (initM r g b)).2 ∧ ms.length = j
theorem metTurn {g h₇ : Heap} {L P H I D : Addr} {r gr b : Int} {lits tups : List (Addr × Obj)} {i n : Nat} {m : Str → Option Value} {io o : Obj} {lp : Addr × Obj} {vs : List Value} {tp : Tok} {tk : Nat} {s : Shared} {Q : Flow → Shared → Prop} {e : List Int}
    (F : Fr g L h₇ m) (N : News g L h₇ ((H, listOf (vs ++ [Value.ref D]).toArray (n + 1)) :: (D, o) :: (I, io) :: lp :: tups)) (e1 : m (Str.ofString "heap") = some (.ref H)) (e2 : m (Str.ofString "parts") = some (.ref P)) (e3 : m (Str.ofString "count") = some (.int 8 tp))
    (hIH : I ≠ H) (haxH : lp.1 ≠ H) (l1 : H < D) (l2 : I < D) (l3 : lp.1 < D) (hH : ∀ p ∈ tups, p.1 ≠ H) (hsub : ∀ p ∈ lits, p ∈ tups) (hne : ∀ p ∈ tups, p.1 ≠ I ∧ p.1 ≠ lp.1)
    (hvs : All2 (TupN tups) vs ((starts.take i).map (entry r gr b))) (ho : TupN [(D, o)] (.ref D) e) (hxe : (starts.take (i + 1)).map (entry r gr b) = (starts.take i).map (entry r gr b) ++ [e]) (hvl : vs.length < 100 - 10 + i) :
    TurnEnd2 g L I io lp (JLF P H r gr b lits (i + 1)) s Q .next { s with heap := h₇, toks := tk } := by
  refine ⟨h₇, tk, m, (H, listOf (vs ++ [Value.ref D]).toArray (n + 1)) :: (D, o) :: tups, rfl, F, News.sub N fun p hp => ?_, fun p hp => ?_, vs ++ [Value.ref D], n + 1, (D, o) :: tups, tp, e1, e2, e3, rfl, ?_, (fun p hp => .tail _ (hsub p hp)), ?_, ?_⟩
  · revert p; walk_at "m me"
  · rcases List.mem_cons.mp hp with rfl | hp
    · exact ⟨Ne.symm hIH, Ne.symm haxH⟩
    · rcases List.mem_cons.mp hp with rfl | hp
      · exact ⟨Nat.ne_of_gt l2, Nat.ne_of_gt l3⟩
      · exact hne p hp
  · intro p hp
    rcases List.mem_cons.mp hp with rfl | hp
    · exact Nat.ne_of_gt l1
    · exact hH p hp
  · rw [hxe]
    exact (hvs.mono fun v xs => TupN.mono fun p hp => .tail _ hp).append (.cons (ho.mono fun p hp => by rw [List.mem_singleton.mp hp]; exact .head _) .nil)
  · rw [List.length_append]; simp only [List.length_cons, List.length_nil]; omega

theorem push_K {w : World} {A : Around} {E : Value → Shared → Prop} {s : Shared} {g : Heap} {L : Addr} {m : Str → Option Value} {p : Program} {loose : List Str} {mean : ExcName → Option Value} {mg mb : Str → Option Value} {Q : Value → Shared → Prop}
    {H : Addr} {vs : List Value} {n : Nat} {x : Value} {rest : List (Addr × Obj)} {es : List (List Int)} {e : List Int} (F : Fr g L s.heap m) (N : News g L s.heap ((H, listOf vs.toArray n) :: rest)) (X : (hd.heap_1 w.params).In g) (T : Top p loose mean mg mb g)
    (hroom : A.depth + 1 < recursionLimit) (hu : A.units + 20 < cLine) (hrest : ∀ p ∈ rest, p.1 ≠ H) (hvs : All2 (TupN rest) vs es) (hx : TupN rest x e) (hlen : vs.length < 500)
    (h : ∀ h' tk' n' vs', Fr g L h' m → News g L h' ((H, listOf (List.toArray vs') n') :: rest) → All2 (TupN rest) vs' (hpush lexLt [] es e) → Q .none { s with heap := h', toks := tk' }) :
    wpAny (model PG w) A (call (.ref 77) [.ref H, x]) Q E s := by
  have hTn : ∀ p ∈ rest, (s.heap.hide H).get? p.1 = some p.2 := fun p hp => (Heap.hide_ne _ (hrest p hp)).trans (N p (.tail _ hp)).1
  refine heappush_ok (g := s.heap.hide H) (gt := s.heap.hide H) (fun _ _ e => e) hide_sub (Nat.le_of_eq (Heap.hide_size _ _)) (X.keeps (hide_above F N)) (T.keeps (hide_above F N)) hroom hu (News.get N (.head _)) (Heap.hide_self _ _) (fun v hv => by obtain ⟨xs, hx⟩ := all2_mem hvs v hv; exact ⟨xs, hx.at hTn⟩) ⟨_, hx.at hTn⟩ hlen ?_
  intro h' tk' n' hs hl
  obtain ⟨F', N'⟩ := hide_back F N hrest hs hl
  exact h h' tk' n' _ F' N' (all2_push hTn hvs hx)
theorem all_ne {D : Addr} {a : Addr × Obj} {l : List (Addr × Obj)} (h : a.1 ≠ D) (t : ∀ p ∈ l, p.1 ≠ D) : ∀ p ∈ a :: l, p.1 ≠ D := fun p hp => by
  rcases List.mem_cons.mp hp with rfl | hp
  · exact h
  · exact t p hp
theorem all_ne2 {D M : Addr} {a : Addr × Obj} {l : List (Addr × Obj)} (h : a.1 ≠ D) (h' : a.1 ≠ M) (t : ∀ p ∈ l, p.1 ≠ D ∧ p.1 ≠ M) : ∀ p ∈ a :: l, p.1 ≠ D ∧ p.1 ≠ M := fun p hp => by
  rcases List.mem_cons.mp hp with rfl | hp
  · exact ⟨h, h'⟩
  · exact t p hp
/-- a turn's end: the new ledger -/
theorem metStep {g h₇ : Heap} {L P H M : Addr} {r gr b : Int} {tups : List (Addr × Obj)} {j k n n' : Nat} {m : Str → Option Value} {vs ms : List Value} {tp : Tok} {tk : Nat} {s : Shared} {Q : Flow → Shared → Prop}
    (F : Fr g L h₇ m) (N : News g L h₇ ((H, listOf vs.toArray n) :: (M, listOf ms.toArray n') :: tups)) (e1 : m (Str.ofString "heap") = some (.ref H)) (e4 : m (Str.ofString "met") = some (.ref M)) (e2 : m (Str.ofString "parts") = some (.ref P)) (e3 : m (Str.ofString "count") = some (.int 8 tp))
    (hHM : H ≠ M) (hH : ∀ p ∈ tups, p.1 ≠ H ∧ p.1 ≠ M) (hk : k + j = 8) (hj : j < 8) (h1 : All2 (TupN tups) vs (iterM r gr b (j + 1) (initM r gr b)).1) (h2 : All2 (TupN tups) ms (iterM r gr b (j + 1) (initM r gr b)).2) (hl : ms.length = j + 1) :
    WhileStep2 g L s (JLM P H M r gr b) Q k .next { s with heap := h₇, toks := tk } :=
  ⟨h₇, tk, m, _, k - 1, rfl, F, N, by omega, j + 1, vs, ms, n, n', tups, tp, e1, e4, e2, e3, rfl, hHM, hH, by omega, h1, h2, hl⟩

set_option maxRecDepth 100000 in
set_option maxHeartbeats 8000000 in
theorem met_ok {w : World} {A : Around} {E : Value → Shared → Prop} {Q : Value → Shared → Prop} {s : Shared} {g : Heap} {p : Program} {loose : List Str} {mean : ExcName → Option Value} {mg mb : Str → Option Value}
    {P : Addr} {r gr b : Int} {t0 t1 t2 tc : Tok}
    (hg : Sub g s.heap) (hsz : g.objs.size ≤ s.heap.objs.size) (X : (hd.heap_1 w.params).In g) (T : Top p loose mean mg mb g) (hroom : A.depth + 10 < recursionLimit) (hu : A.units + 100 < cLine) (hh : A.handled = none)
    (hP : g.IsList P #[.int r t0, .int gr t1, .int b t2]) (hgood : ∀ j, j < 8 → goodS (iterM r gr b j (initM r gr b)).1 = true)
    (hQ : ∀ h' tk' M ms n tups, Sub g h' → (∀ p ∈ (M, listOf (List.toArray ms) n) :: tups, h'.get? p.1 = some p.2 ∧ g.get? p.1 = none) → (∀ p ∈ tups, p.1 ≠ M) → All2 (TupN tups) ms (metP r gr b) → Q (.ref M) { s with heap := h', toks := tk' }) :
    wpAny (model PG w) A (call (.ref 119) [.ref P, .int 8 tc]) Q E s := by
  walk_at "m ent"
  case hN => exact List.forall_mem_nil _
  case k8 => exact Nat.lt_of_le_of_lt (Nat.le_add_right _ _) hroom
  intro L h F N l
  try dsimp only
  walk_at "m go"
  rename_i H h₀ l₀ h₁ F₁ N₁
  refine' For_turns ?F ?_ ?hs ?hE
  case F => exact F₁
  case hs => exact fold_list _ _ _
  case hE => exact PassesOwn.never
  refine' eval_litTs (iss := starts) ?hl ?hn ?hm ?F ?N ?_
  case hl => unfold starts; repeat' (first | exact .nil | exact .pos | exact .neg | refine .mk ?_ | refine .cons ?_ ?_)
  case hn => decide
  case hm => decide
  case F => exact F₁
  case N => exact N₁
  intro ax items lits h₂ tk₂ F₂ N₂ hA hlo hlt
  have hHn := Heap.lt_size (N₁ _ (.head _)).1
  have hlH : ∀ p ∈ lits, p.1 ≠ H := fun p hp q => absurd hHn (by have := hlo p hp; rw [q] at this; exact Nat.not_lt.mpr this)
  have hmem : ∀ p : Addr × Obj, p ∈ (H, listOf (List.toArray []) 0) :: lits → p ∈ lits ++ [(H, listOf #[] 0)] := fun p hp => by
    rcases List.mem_cons.mp hp with rfl | hp
    · exact List.mem_append_right _ (.head _)
    · exact List.mem_append_left _ hp
  have N₃ : News g L h₂ ((ax, listOf items.toArray 0) :: (H, listOf (List.toArray []) 0) :: lits) := News.sub N₂ fun p hp => by
    rcases List.mem_cons.mp hp with rfl | hp
    · exact .head _
    · exact .tail _ (hmem p hp)
  have hax : ∀ p ∈ (H, listOf (List.toArray []) 0) :: lits, p.1 ≠ ax := fun p hp => Nat.ne_of_lt (hlt p (hmem p hp))
  clear N₂ N₁ F₁
  refine loop_listT (JLF P H r gr b lits) hh F₂ N₃ hax ⟨[], 0, lits, tc, rfl, rfl, rfl, rfl, hlH, fun _ h => h, .nil, by decide⟩ ?_ ?_
  · rintro i v I io m₁ news₁ h₃ tk₃ hv ⟨vs, n, tups, tp, e1, e2, e3, rfl, hH, hsub, hvs, hvl⟩ hIax hne F₄ N₄
    obtain ⟨xs, hxs, a, its, nn, rfl, hat, hits⟩ := hA.get hv
    obtain ⟨x, y, u, w', rfl, b1, b2, b3, b4⟩ := starts_ok xs (List.mem_of_getElem? hxs)
    obtain ⟨tx, ty, tu, tv, rfl⟩ := int4 hits
    have hIH : I ≠ H := Ne.symm (hne _ (.head _)).1
    have haxH : ax ≠ H := Ne.symm (hne _ (.head _)).2
    have N₅ : News g L h₃ ((H, listOf vs.toArray n) :: (I, io) :: (ax, listOf items.toArray 0) :: tups) := News.sub N₄ fun p hp => by
      revert p; walk_at "m me"
    have hpost : ∀ p ∈ (I, io) :: (ax, listOf items.toArray 0) :: tups, p.1 ≠ H := fun p hp => by
      rcases List.mem_cons.mp hp with rfl | hp
      · exact hIH
      · rcases List.mem_cons.mp hp with rfl | hp
        · exact haxH
        · exact hH p hp
    have hTup : IsTup h₃ a #[.int x tx, .int y ty, .int u tu, .int w' tv] := ⟨_, (N₅ _ (.tail _ (.tail _ (.tail _ (hsub _ hat))))).1, rfl, nn, rfl⟩
    have hi6 : i < 6 := by
      rcases Nat.lt_or_ge i 6 with h | h
      · exact h
      · rw [List.getElem?_eq_none (by exact h)] at hxs; cases hxs
    have F₅ : Fr g L h₃ m₁ := F₄
    clear N₄ N₃ F₄
    walk_at "m go"
    rename_i D h₆ l1 h₇ F₇ N₇
    have hxe : (starts.take (i + 1)).map (entry r gr b) = (starts.take i).map (entry r gr b) ++ [[size r gr b x y, x, y, u, w']] := by
      rw [List.take_add_one, hxs, List.map_append]
      rfl
    exact metTurn F₇ N₇ (by exact e1) (by exact e2) (by exact e3) hIH haxH l1.1 l1.2.1 l1.2.2.1 hH hsub (fun p hp => hne p (.tail _ hp)) hvs ⟨D, _, _, rfl, .head _, .cons _ _ (.cons _ _ (.cons _ _ (.cons _ _ (.cons _ _ .nil))))⟩ hxe hvl
  · rintro h₃ tk₃ m₁ news₁ F₄ N₄ hne ⟨vs, n, tups, tp, e1, e2, e3, rfl, hH, hsub, hvs, hvl⟩
    have hvs6 : vs.length = 6 := by
      have := hvs.length
      have hi : items.length = 6 := hA.length
      rw [this, hi]; rfl
    have F₅ : Fr g L h₃ m₁ := F₄
    have hHax : H ≠ ax := hne _ (.head _)
    have N₅ : News g L h₃ ((H, listOf vs.toArray n) :: tups) := News.sub N₄ fun p hp => .tail _ hp
    have hvs' : All2 (TupN tups) vs (starts.map (entry r gr b)) := by
      have hi : items.length = 6 := hA.length
      rw [hi] at hvs; exact hvs
    clear F₄ N₄ N₃ F₂ hvs
    walk_at "m go"
    have hTn : ∀ p ∈ tups, (h₃.hide H).get? p.1 = some p.2 := fun p hp => (Heap.hide_ne _ (hH p hp)).trans (N₅ p (.tail _ hp)).1
    refine heapify_ok (g := h₃.hide H) (gt := h₃.hide H) (fun _ _ e => e) hide_sub (Nat.le_of_eq (Heap.hide_size _ _)) (X.keeps (hide_above F₅ N₅)) (T.keeps (hide_above F₅ N₅)) (by show A.depth + 1 + 2 < recursionLimit; exact room2 hroom (by decide)) (by show A.units + 3 + 30 < cLine; exact room2 hu (by decide)) hh (News.get N₅ (.head _)) (Heap.hide_self _ _) (fun v hv => by obtain ⟨xs, hx⟩ := all2_mem hvs' v hv; exact ⟨xs, hx.at hTn⟩) hvs6 ?_
    intro h₄ tk₄ n₄ hs₄ hl₄
    obtain ⟨F₆, N₆⟩ := hide_back F₅ N₅ hH hs₄ hl₄
    have hvh := all2_hfy hTn hvs' hvs6 3
    generalize hfyN (ltv (h₃.hide H)) .none vs 3 = vs₁ at N₆ hvh
    clear F₅ N₅ hl₄ hTn
    walk_at "m go"
    rename_i M h₅ l₂ h₆ F₇ N₇
    have hMlt := allLt_to l₂.2
    have N₈ : News g L h₆ ((H, listOf vs₁.toArray n₄) :: (M, listOf (List.toArray []) 0) :: tups) := News.swap N₇
    refine While_inv2 (JLM P H M r gr b) (n₀ := 8) F₇ N₈ ⟨0, vs₁, [], n₄, 0, tups, tp, (by exact e1), rfl, (by exact e2), (by exact e3), rfl, Nat.ne_of_lt l₂.1, fun p hp => ⟨hH p hp, Nat.ne_of_lt (hMlt p hp)⟩, rfl, hvh, .nil, rfl⟩ ?_ PassesOwn.never
    clear F₇ N₇ N₈ hvh hvs' hH hvl hsub l₂ hMlt
    rintro k m₂ news₂ h₇ tk₇ F₈ N₈ ⟨j, ws, ms, nw, nm, tps, tq, d1, d2, d3, d4, rfl, hHM, hne₂, hkj, hws, hms, hml⟩
    have hml8 : ms.length ≤ 8 := by omega
    walk_at "m go"
    · have hj8 : j < 8 := by
        have : (ms.length : Int) < 8 := by assumption
        omega
      have hgd := goodS_spec (hgood j hj8)
      have hwl : ws.length = (iterM r gr b j (initM r gr b)).1.length := hws.length
      obtain ⟨x₀, us, y₀, rfl⟩ := split2 (xs := ws) (by rw [hwl]; exact hgd.1)
      obtain ⟨e', ey, hes, h1, hy0⟩ := All2.split hws
      cases h1 with
      | @cons _ e₀ _ eus hx0 hus =>
      obtain ⟨sz, x, y, u, v, rfl, bx1, bx2, by1, by2, bu1, bu2, bv1, bv2⟩ := goodT_spec (hgd.2.2 e₀ (by rw [hes]; exact List.mem_append_left _ (.head _)))
      obtain ⟨a, its, nn, rfl, hat, hits⟩ := id hx0
      have hTn : ∀ p ∈ tps, (h₇.hide H).get? p.1 = some p.2 := fun p hp => (Heap.hide_ne _ (hne₂ p hp).1).trans (N₈ p (.tail _ (.tail _ hp))).1
      have hrest : ∀ p ∈ (M, listOf ms.toArray nm) :: tps, p.1 ≠ H := fun p hp => by
        rcases List.mem_cons.mp hp with rfl | hp
        · exact Ne.symm hHM
        · exact (hne₂ p hp).1
      refine heappop_ok (g := h₇.hide H) (gt := h₇.hide H) (fun _ _ e => e) hide_sub (Nat.le_of_eq (Heap.hide_size _ _)) (X.keeps (hide_above F₈ N₈)) (T.keeps (hide_above F₈ N₈)) (by show A.depth + 1 + 2 < recursionLimit; exact room2 hroom (by decide)) (by show A.units + 3 + 30 < cLine; exact room2 hu (by decide)) (News.get N₈ (.head _)) (Heap.hide_self _ _) (fun v hv => by obtain ⟨xs, hx⟩ := all2_mem hws v hv; exact ⟨xs, hx.at hTn⟩) (by have h5 := hgd.2.1; rw [← hwl] at h5; simp at h5; omega) ?_
      intro h₈ tk₈ n₈ hs₈ hl₈
      obtain ⟨F₉, N₉⟩ := hide_back F₈ N₈ hrest hs₈ hl₈
      have hsu := all2_sup hTn (.cons hy0 hus) (p := 0) (Nat.succ_pos _)
      generalize sup (ltv (h₇.hide H)) .none (y₀ :: us) 0 = ws₁ at N₉ hsu
      obtain ⟨ts, tx, ty, tu, tv, rfl⟩ := int5 hits
      have hTup : IsTup h₈ a #[.int sz ts, .int x tx, .int y ty, .int u tu, .int v tv] := ⟨_, (N₉ _ (.tail _ (.tail _ hat))).1, rfl, nn, rfl⟩
      have N₁₀ : News g L h₈ ((M, listOf ms.toArray nm) :: (H, listOf ws₁.toArray n₈) :: tps) := News.swap N₉
      have hpM : ∀ p ∈ (H, listOf ws₁.toArray n₈) :: tps, p.1 ≠ M := fun p hp => by
        rcases List.mem_cons.mp hp with rfl | hp
        · exact hHM
        · exact (hne₂ p hp).2
      clear F₈ N₈ N₉ hl₈
      have hst : stepM r gr b (iterM r gr b j (initM r gr b)) = (if u = 0 ∧ v = 0 then sup lexLt [] (ey :: eus) 0 else hpush lexLt [] (hpush lexLt [] (sup lexLt [] (ey :: eus) 0) (entry r gr b [x + u, y + v, u, v])) (entry r gr b [2 * x - u, 2 * y - v, x - u, y - v]), (iterM r gr b j (initM r gr b)).2 ++ [[sz, x, y, u, v]]) := by
        delta stepM
        rw [hes, popP_eq]
      walk_at "m go"
      · rename_i D₁ h₉ l₁ h₁₀ tk₁₀ D₂ h₁₁ l₂ D₃ h₁₂ F₁₁ N₁₁ l₃ huv
        have huv' : u = 0 ∧ v = 0 := by simpa using huv
        have N₁₂ := perm1 N₁₁
        have hit : iterM r gr b (j + 1) (initM r gr b) = (sup lexLt [] (ey :: eus) 0, (iterM r gr b j (initM r gr b)).2 ++ [[sz, x, y, u, v]]) := by
          rw [iterM, hst, if_pos huv']
        refine metStep F₁₁ N₁₂ (by exact d1) (by exact d2) (by exact d3) (by exact d4) hHM (all_ne2 (Nat.ne_of_gt l₃.2.2.2.1) (Nat.ne_of_gt l₃.2.1) (all_ne2 (Nat.ne_of_gt l₂.2.2.1) (Nat.ne_of_gt l₂.1) (all_ne2 (Nat.ne_of_gt l₁.2.1) (Nat.ne_of_gt l₁.1) hne₂))) hkj hj8 ?_ ?_ (by simp [hml])
        · rw [hit]
          exact hsu.mono fun v xs => TupN.mono fun p hp => .tail _ (.tail _ (.tail _ hp))
        · rw [hit]
          exact (hms.mono fun v xs => TupN.mono fun p hp => .tail _ (.tail _ (.tail _ hp))).append (.cons ⟨D₁, _, _, rfl, .tail _ (.tail _ (.head _)), .cons _ _ (.cons _ _ (.cons _ _ (.cons _ _ (.cons _ _ .nil))))⟩ .nil)
      · rename_i D₁ h₉ l₁ h₁₀ tka D₂ h₁₁ l₂ D₃ h₁₂ l₃ huv h₁₃ t₁₃ tk₁₃ D₄ h₁₄ F₁₁ N₁₁ l₄
        have huv' : ¬ (u = 0 ∧ v = 0) := by simpa using huv
        have hit : iterM r gr b (j + 1) (initM r gr b) = (hpush lexLt [] (hpush lexLt [] (sup lexLt [] (ey :: eus) 0) (entry r gr b [x + u, y + v, u, v])) (entry r gr b [2 * x - u, 2 * y - v, x - u, y - v]), (iterM r gr b j (initM r gr b)).2 ++ [[sz, x, y, u, v]]) := by
          rw [iterM, hst, if_neg huv']
        have hw1 : ws₁.length < 200 := by
          rw [hsu.length, sup_length (by simp)]
          have h5 := hgd.2.1
          rw [hes] at h5
          simp at h5 ⊢
          omega
        have N₁₂ := perm5 N₁₁
        refine push_K (e := entry r gr b [x + u, y + v, u, v]) F₁₁ N₁₂ X T (by show A.depth + 1 + 1 < recursionLimit; exact room2 hroom (by decide)) (by show A.units + 3 + 20 < cLine; exact room2 hu (by decide))
          (all_ne (Nat.ne_of_gt l₄.2.2.2.2.1) (all_ne (Nat.ne_of_gt l₃.2.2.2.1) (all_ne (Nat.ne_of_gt l₂.2.2.1) (all_ne (Ne.symm hHM) (all_ne (Nat.ne_of_gt l₁.2.1) fun p hp => (hne₂ p hp).1)))))
          (hsu.mono fun v xs => TupN.mono fun p hp => .tail _ (.tail _ (.tail _ (.tail _ (.tail _ hp))))) ⟨D₄, _, _, rfl, .head _, .cons _ _ (.cons _ _ (.cons _ _ (.cons _ _ (.cons _ _ .nil))))⟩ (by omega) ?_
        intro h₁₅ tk₁₅ n₁₅ ws₂ F₁₂ N₁₃ hws₂
        clear F₁₁ N₁₁ N₁₂
        have hw2 : ws₂.length < 201 := by
          rw [hws₂.length, hpush_length, ← hsu.length]; omega
        walk_at "m go"
        rename_i h₁₆ t₁₆ tk₁₆ D₅ h₁₇ F₁₃ N₁₄ l₅
        have N₁₅ := News.swap N₁₄
        refine push_K (e := entry r gr b [2 * x - u, 2 * y - v, x - u, y - v]) F₁₃ N₁₅ X T (by show A.depth + 1 + 1 < recursionLimit; exact room2 hroom (by decide)) (by show A.units + 3 + 20 < cLine; exact room2 hu (by decide))
          (all_ne (Nat.ne_of_gt l₅.1) (all_ne (Nat.ne_of_gt l₄.2.2.2.2.1) (all_ne (Nat.ne_of_gt l₃.2.2.2.1) (all_ne (Nat.ne_of_gt l₂.2.2.1) (all_ne (Ne.symm hHM) (all_ne (Nat.ne_of_gt l₁.2.1) fun p hp => (hne₂ p hp).1))))))
          (hws₂.mono fun v xs => TupN.mono fun p hp => .tail _ hp) ⟨D₅, _, _, rfl, .head _, .cons _ _ (.cons _ _ (.cons _ _ (.cons _ _ (.cons _ _ .nil))))⟩ (by omega) ?_
        intro h₁₈ tk₁₈ n₁₈ ws₃ F₁₄ N₁₆ hws₃
        clear F₁₃ N₁₄ N₁₅
        walk_at "m go"
        refine metStep F₁₄ (permM N₁₆) (by exact d1) (by exact d2) (by exact d3) (by exact d4) hHM (all_ne2 (Nat.ne_of_gt l₅.1) (Nat.ne_of_gt l₅.2.2.2.2.1) (all_ne2 (Nat.ne_of_gt l₄.2.2.2.2.1) (Nat.ne_of_gt l₄.2.2.1) (all_ne2 (Nat.ne_of_gt l₃.2.2.2.1) (Nat.ne_of_gt l₃.2.1) (all_ne2 (Nat.ne_of_gt l₂.2.2.1) (Nat.ne_of_gt l₂.1) (all_ne2 (Nat.ne_of_gt l₁.2.1) (Nat.ne_of_gt l₁.1) hne₂))))) hkj hj8 ?_ ?_ (by simp [hml])
        · rw [hit]
          refine hws₃.mono fun v xs => TupN.skip (M := M) (its := (ms ++ [Value.ref D₁]).toArray) (n := nm + 1) fun p hp => ?_
          simp only [List.mem_cons] at hp ⊢
          rcases hp with h | h | h | h | h | h | h <;> simp [h]
        · rw [hit]
          exact (hms.mono fun v xs => TupN.mono fun p hp => .tail _ (.tail _ (.tail _ (.tail _ (.tail _ hp))))).append (.cons ⟨D₁, _, _, rfl, .tail _ (.tail _ (.tail _ (.tail _ (.head _)))), .cons _ _ (.cons _ _ (.cons _ _ (.cons _ _ (.cons _ _ .nil))))⟩ .nil)
    · have hj8 : j = 8 := by
        have : ¬ (ms.length : Int) < 8 := by assumption
        omega
      subst hj8
      exact hQ _ _ M ms nm tps F₈.keep (fun p hp => ⟨(N₈ p (.tail _ hp)).1, (N₈ p (.tail _ hp)).2.2⟩) (fun p hp => (hne₂ p hp).2) hms
end
example {w : World} {A : Around} {E Q : Value → Shared → Prop} {s : Shared} (h : wpAny (model PySem.Challenge.pw_qu0043_01 w) A (call (.ref 0) []) Q E s) : wpAny (model PySem.Challenge.pw_qu0043_01 w) A (call (.ref 0) []) Q E s := by w_top off; first | (walk1; fail) | exact h
-- part Dig
set_option maxRecDepth 100000
section
noncomputable def digs (n : Nat) : Nat → Nat → List Int
  | 0, _ => []
  | k + 1, x => ((x % 2 ^ n : Nat) : Int) :: digs n k (x / 2 ^ n)
theorem digs_length (n : Nat) : ∀ k x, (digs n k x).length = k
  | 0, _ => rfl
  | k + 1, x => by rw [digs, List.length_cons, digs_length n k]
theorem digs_add (n : Nat) : ∀ (k1 k2 x : Nat), digs n (k1 + k2) x = digs n k1 (x % 2 ^ (k1 * n)) ++ digs n k2 (x / 2 ^ (k1 * n))
  | 0, k2, x => by simp [digs]
  | k1 + 1, k2, x => by
    have e : k1 + 1 + k2 = (k1 + k2) + 1 := by omega
    have p : 2 ^ ((k1 + 1) * n) = 2 ^ n * 2 ^ (k1 * n) := by rw [← Nat.pow_add]; congr 1; rw [Nat.succ_mul]; omega
    rw [e, digs, digs, digs_add n k1 k2, p, Nat.mod_mul_right_mod, Nat.mod_mul_right_div_self, Nat.div_div_eq_div_mul, List.cons_append]
noncomputable def putD (ds : List Int) (lo : Nat) (xs : List Int) : List Int := ds.take lo ++ (xs ++ ds.drop (lo + xs.length))
theorem putD_length {ds : List Int} {lo : Nat} {xs : List Int} (h : lo + xs.length ≤ ds.length) : (putD ds lo xs).length = ds.length := by
  unfold putD
  simp only [List.length_append, List.length_take, List.length_drop]
  omega
theorem putD_two {ds : List Int} {lo : Nat} {xs ys : List Int} (h : lo + xs.length + ys.length ≤ ds.length) : putD (putD ds lo xs) (lo + xs.length) ys = putD ds lo (xs ++ ys) := by
  unfold putD
  have h1 : (ds.take lo ++ (xs ++ ds.drop (lo + xs.length))).take (lo + xs.length) = ds.take lo ++ xs := by
    rw [← List.append_assoc, List.take_append_of_le_length (by simp; omega), List.take_of_length_le (by simp; omega)]
  have h2 : (ds.take lo ++ (xs ++ ds.drop (lo + xs.length))).drop (lo + xs.length + ys.length) = ds.drop (lo + (xs ++ ys).length) := by
    rw [← List.append_assoc, List.drop_append, List.drop_of_length_le (by simp; omega), List.nil_append, List.drop_drop]
    congr 1
    simp
    omega
  rw [h1, h2]
  simp
theorem putD_one {ds : List Int} {lo : Nat} {v : Int} (h : lo < ds.length) : ds.set lo v = putD ds lo [v] := by
  unfold putD
  rw [List.set_eq_take_append_cons_drop, if_pos h]
  rfl
theorem putD_all {ds xs : List Int} (h : xs.length = ds.length) : putD ds 0 xs = xs := by
  unfold putD
  simp
  omega
end
section
/-- a code's table and what it holds, on the ledger -/
noncomputable def TabL (P : Addr) (ln col : Nat) (q : Str) (tl : List (Addr × Obj)) : Prop :=
  ∃ (ps : Array Value) (cs : List (Addr × Obj)), tl = (P, tabObj ps) :: cs ∧ (∀ p ∈ cs, p.1 ≠ P) ∧
    (ps = #[] ∨ ∃ (c : Addr) (oc : Obj) (vs : Array Value) (t : Tok), ps = #[rawInt ln, rawInt col, .ref c] ∧ (c, oc) ∈ cs ∧ oc.data = .fields vs ∧ vs[1]? = some (.str q t))
noncomputable def nDig (a n : Nat) : Nat := (Builtin.Int.intBits (a : Int) + n - 1) / n
theorem bits_lt (a : Nat) : a < 2 ^ Builtin.Int.intBits (a : Int) := by
  unfold Builtin.Int.intBits
  split
  · rename_i h
    have : (a : Int) = 0 := by simpa using h
    have : a = 0 := by omega
    subst this; decide
  · rw [Int.natAbs_natCast]
    exact Nat.lt_log2_self
theorem nDig_lt {a n : Nat} (hn : 0 < n) : a < 2 ^ (nDig a n * n) := by
  refine Nat.lt_of_lt_of_le (bits_lt a) (Nat.pow_le_pow_right (by decide) ?_)
  unfold nDig
  generalize Builtin.Int.intBits (a : Int) = b
  have h1 := Nat.div_add_mod (b + n - 1) n
  have h2 := Nat.mod_lt (b + n - 1) hn
  rw [Nat.mul_comm] at h1
  omega
theorem nDig_zero {n : Nat} (hn : 0 < n) : nDig 0 n = 0 := by
  unfold nDig
  have : Builtin.Int.intBits ((0 : Nat) : Int) = 0 := rfl
  rw [this]
  exact Nat.div_eq_of_lt (by omega)
theorem nDig_cast {a n : Nat} (hn : 0 < n) : ((Builtin.Int.intBits (a : Int) : Int) + n - 1).fdiv n = (nDig a n : Int) := by
  unfold nDig
  rw [Int.fdiv_eq_ediv_of_nonneg _ (by omega)]
  have : ((Builtin.Int.intBits (a : Int) : Int) + n - 1) = ((Builtin.Int.intBits (a : Int) + n - 1 : Nat) : Int) := by omega
  rw [this]
  norm_cast
end
section
noncomputable def valD (n : Nat) : List Nat → Nat
  | [] => 0
  | d :: ds => d + 2 ^ n * valD n ds
theorem valD_append (n : Nat) : ∀ (xs ys : List Nat), valD n (xs ++ ys) = valD n xs + 2 ^ (xs.length * n) * valD n ys
  | [], ys => by simp [valD]
  | x :: xs, ys => by
    rw [List.cons_append, valD, valD, valD_append n xs ys, List.length_cons, Nat.succ_mul, Nat.pow_add, Nat.mul_add, Nat.mul_comm (2 ^ (xs.length * n)) (2 ^ n)]
    rw [Nat.mul_assoc, Nat.add_assoc]
theorem valD_take_le (n : Nat) (xs : List Nat) (k : Nat) : valD n (xs.take k) ≤ valD n xs := by
  have h := valD_append n (xs.take k) (xs.drop k)
  rw [List.take_append_drop] at h
  omega
theorem valD_drop_le (n : Nat) (xs : List Nat) (k : Nat) : valD n (xs.drop k) ≤ valD n xs := by
  have h := valD_append n (xs.take k) (xs.drop k)
  rw [List.take_append_drop] at h
  have := Nat.le_mul_of_pos_left (valD n (xs.drop k)) (Nat.two_pow_pos ((xs.take k).length * n))
  omega
theorem valD_slice_le (n : Nat) (xs : List Nat) (lo k : Nat) : valD n ((xs.drop lo).take k) ≤ valD n xs := Nat.le_trans (valD_take_le n _ k) (valD_drop_le n xs lo)
theorem slice_two {α : Type} (xs : List α) (lo k k1 : Nat) (h : k1 ≤ k) : (xs.drop lo).take k = (xs.drop lo).take k1 ++ (xs.drop (lo + k1)).take (k - k1) := by
  have e : (xs.drop lo).take k = (xs.drop lo).take (k1 + (k - k1)) := by congr 1; omega
  rw [e, List.take_add, List.drop_drop]
theorem slice_one {xs : List Nat} {lo : Nat} (h : lo < xs.length) : (xs.drop lo).take 1 = [xs.getD lo 0] := by
  have e : xs.drop lo = xs.getD lo 0 :: xs.drop (lo + 1) := by
    rw [List.drop_eq_getElem_cons h]
    congr 1
    simp [h]
  rw [e]
  rfl
theorem getD_cast (xs : List Nat) (i : Nat) : (xs.map (fun (d : Nat) => (d : Int))).getD i 0 = ((xs.getD i 0 : Nat) : Int) :=
  getD_map (fun d : Nat => (d : Int)) 0 xs i
end
section
theorem permN3 {h₀ h : Heap} {L : Addr} {f t c3 c2 c1 : Addr × Obj} {add cs : List (Addr × Obj)} (N : News h₀ L h (f :: t :: (add ++ c3 :: c2 :: c1 :: cs))) : News h₀ L h (c3 :: f :: c2 :: c1 :: t :: (add ++ cs)) := News.sub N fun p hp => by
  revert p; (repeat (first | refine List.forall_mem_cons.mpr ⟨by with_reducible repeat (first | assumption | exact List.mem_cons_self | exact List.mem_append_left _ (by assumption) | refine List.mem_cons_of_mem _ ?_ | refine List.mem_append_right _ ?_), ?_⟩ | refine List.forall_mem_append.mpr ⟨by (intro _ _; with_reducible repeat (first | assumption | exact List.mem_cons_self | exact List.mem_append_left _ (by assumption) | refine List.mem_cons_of_mem _ ?_ | refine List.mem_append_right _ ?_)), ?_⟩)); (intro _ _; with_reducible repeat (first | assumption | exact List.mem_cons_self | exact List.mem_append_left _ (by assumption) | refine List.mem_cons_of_mem _ ?_ | refine List.mem_append_right _ ?_))
theorem half_num {k : Nat} (h : 2 ≤ k) : 0 < k / 2 ∧ k / 2 < k ∧ 0 < k - k / 2 ∧ k - k / 2 < k ∧ k / 2 + (k - k / 2) = k := by
  have a : 0 < k / 2 := Nat.div_pos h (by decide)
  have b : k / 2 < k := Nat.div_lt_self (Nat.lt_of_lt_of_le (by decide) h) (by decide)
  exact ⟨a, b, Nat.sub_pos_of_lt b, Nat.sub_lt (Nat.lt_of_lt_of_le (by decide) h) a, Nat.add_sub_of_le (Nat.le_of_lt b)⟩
theorem mid_num (l k : Nat) : (l + (l + k)) / 2 ^ 1 = l + k / 2 := by
  rw [← Nat.add_assoc, ← Nat.two_mul]
  exact Nat.mul_add_div (by decide) l k
theorem half_room {d j k r : Nat} (h : j < k) (hr : d + k < r) : d + 1 + j < r := by
  rw [Nat.add_assoc, Nat.add_comm 1]
  exact Nat.lt_of_le_of_lt (Nat.add_le_add_left h d) hr
end
section
-- part ID
local macro_rules | `(tactic| walk_at "eval Name") => `(tactic| (k_here; k_dflt (refine' nmF (by exact rfl) (by exact rfl) (by decide) (by decide) (by k_asm) (by exact rfl) (by assumption) (by assumption) ?_; k_whole)))
local macro_rules | `(tactic| walk_at "callWith ref") => `(tactic| (k_here; k_dflt (refine' callWith_F (fnAt_keep (by k_asm) (by assumption)) ?_ (by with_unfolding_all rfl) (by with_unfolding_all rfl); k_whole)))
local macro_rules | `(tactic| walk_at "And") => `(tactic| ((with_reducible show FnAt _ _ ∧ _); refine ⟨fnAt_keep (by k_asm) (by assumption), ?_⟩; try dsimp only [List.nil_append, List.cons_append]))
set_option maxRecDepth 100000 in
set_option maxHeartbeats 8000000 in
theorem i2d_ok {w : World} {A : Around} {E : Value → Shared → Prop} {s : Shared} {g : Heap} {p : Program} {loose : List Str} {mean : ExcName → Option Value} {mg mb : Str → Option Value} {Q : Value → Shared → Prop}
    {a n : Nat} {t1 t2 : Tok} {tl : List (Addr × Obj)}
    (hg : Sub g s.heap) (hsz : g.objs.size ≤ s.heap.objs.size) (X : (hd.heap_1 w.params).In g) (T : Top p loose mean mg mb g) (hroom : A.depth + 100 < recursionLimit) (hu : A.units + 1000 < cLine) (hh : A.handled = none)
    (C : CodeHd g 48 44) (htl : TabL 44 75 4 (qInner "_int2digits") tl) (htab : ∀ p ∈ tl, s.heap.get? p.1 = some p.2 ∧ g.get? p.1 = none)
    (hn : 0 < n) (hn2 : n < 100) (ha : nDig a n < 100) (ha64 : a < 2 ^ 64)
    (hQ : ∀ h' tk' D vs k tl', Sub g h' → TabL 44 75 4 (qInner "_int2digits") tl' → (∀ p ∈ (D, listOf (List.toArray vs) k) :: tl', h'.get? p.1 = some p.2 ∧ g.get? p.1 = none) → (∀ p ∈ tl', p.1 ≠ D) → IntsAre vs (digs n (nDig a n) a) → Q (.ref D) { s with heap := h', toks := tk' }) :
    wpAny (model PG w) A (call (.ref 49) [.int a t1, .int n t2]) Q E s := by
  obtain ⟨ps, cs, rfl, hcs, hps⟩ := htl
  walk_at "m entC"
  case hN => exact htab
  case k8 => exact Nat.lt_of_le_of_lt (Nat.le_add_right _ _) hroom
  intro L h tk cells F' N' Y' l1
  k_cells Y'
  simp only [List.cons_append, List.nil_append] at N'
  try dsimp only
  rename_i o1 o2 o3 d1 d2 d3
  have d1' : o1.data = .cell none := d1
  have d2' : o2.data = .cell none := d2
  have d3' : o3.data = .cell (some (.int n t2)) := d3
  obtain ⟨m₀, F₀, em⟩ : ∃ m, Fr g L h m ∧ m (Str.ofString "a") = some (.int a t1) := ⟨_, F', rfl⟩
  have c1 : ∀ p ∈ cs, p.1 ≠ L + 1 := fun p hp => Nat.ne_of_lt (Nat.lt_succ_of_lt (l1 p (.tail _ hp)))
  have c2 : ∀ p ∈ cs, p.1 ≠ L + 1 + 1 := fun p hp => Nat.ne_of_lt (Nat.lt_succ_of_lt (Nat.lt_succ_of_lt (l1 p (.tail _ hp))))
  have c3 : ∀ p ∈ cs, p.1 ≠ L + 1 + 1 + 1 := fun p hp => Nat.ne_of_lt (Nat.lt_succ_of_lt (Nat.lt_succ_of_lt (Nat.lt_succ_of_lt (l1 p (.tail _ hp)))))
  have l44 : @LT.lt Nat _ 44 L := l1 _ (.head _)
  clear F' d1 d2 d3
  walk_at "m go"
  rename_i l₀ h₁ F₁ N₁ l₁
  refine m_rep (k := nDig a n) (by k_asm) (by k_asm) (by k_mem) ?_ (by omega) ?_
  · exact nDig_cast hn
  intro D h₂ F₂ N₂ l₂
  k_lt l₂
  obtain ⟨vs, hvs, N₂'⟩ : ∃ vs, IntsAre vs (List.replicate (nDig a n) 0) ∧ News g L h₂ ((D, listOf vs.toArray 0) :: (L + 1 + 1 + 1, o1) :: (L + 1 + 1, o2) :: (L + 1, o3) :: (44, tabObj ps) :: cs) := ⟨_, ints_rep _ _, News.drop2 N₂⟩
  have hvl : vs.length = nDig a n := by rw [hvs.length, List.length_replicate]
  clear F₁ N₁ N₂
  walk_at "m go"
  rename_i h₃ o2' F₃ N₃ d2''
  have lD : @LT.lt Nat _ 44 D := l₂.2.2.2.2.1
  have lD3 : @LT.lt Nat _ (L + 1 + 1 + 1) D := l₂.2.1
  have N₄ : News g L h₃ ((44, tabObj ps) :: (D, listOf vs.toArray 0) :: (L + 1 + 1 + 1, o1) :: (L + 1 + 1, o2') :: (L + 1, o3) :: cs) := News.sub N₃ fun p hp => by
    revert p; walk_at "m me"
  refine' nestDef_K ?d0 ?k0 ?a0 ?_
  case d0 => exact rfl
  case k0 => exact rfl
  case a0 => exact rfl
  refine' nest_any F₃ N₄ T C ?hc ?hr ?hp ?hcl ?_
  case hc => rfl
  case hr => k_all
  case hp => exact hps.imp id fun ⟨c, oc, vs, t, e, hm, hd, hv⟩ => ⟨c, oc, vs, t, e, .tail _ (.tail _ (.tail _ (.tail _ hm))), hd, hv⟩
  case hcl => exact rfl
  intro f c' oc vs₀ t₀ ctv doc add h₄ tk₄ F₄ N₅ hcm hcd hcv hadd hf
  have N₆ := permN N₅
  have hcm' : (c', oc) ∈ add ++ cs := by
    simp only [List.mem_append, List.mem_cons, Prod.mk.injEq] at hcm ⊢
    rcases hcm with h | h | h | h | h | h
    · exact .inl h
    · rw [h.2] at hcd; cases hcd
    · rw [h.2, d1'] at hcd; cases hcd
    · rw [h.2, d2''] at hcd; cases hcd
    · rw [h.2, d3'] at hcd; cases hcd
    · exact .inr h
  have lf3 : @LT.lt Nat _ (L + 1 + 1 + 1) f := hf (L + 1 + 1 + 1, o1) (.tail _ (List.mem_append_right _ (.tail _ (.head _))))
  have lfD : @LT.lt Nat _ D f := hf (D, listOf vs.toArray 0) (.tail _ (List.mem_append_right _ (.head _)))
  have lf44 : @LT.lt Nat _ 44 f := hf _ (.head _)
  have c3' : ∀ p ∈ add ++ cs, p.1 ≠ L + 1 + 1 + 1 := fun p hp => by
    rcases List.mem_append.mp hp with hp | hp
    · exact Nat.ne_of_gt (hadd p hp (L + 1 + 1 + 1, o1) (.tail _ (.tail _ (.head _))))
    · exact c3 p hp
  have cD : ∀ p ∈ add ++ cs, p.1 ≠ D := fun p hp => by
    rcases List.mem_append.mp hp with hp | hp
    · exact Nat.ne_of_gt (hadd p hp (D, listOf vs.toArray 0) (.tail _ (.head _)))
    · exact Nat.ne_of_lt (allLt_to l₂.2.2.2.2.2 p hp)
  have c44 : ∀ p ∈ add ++ cs, p.1 ≠ 44 := fun p hp => by
    rcases List.mem_append.mp hp with hp | hp
    · exact Nat.ne_of_gt (hadd p hp _ (.head _))
    · exact hcs p hp
  have htl' : TabL 44 75 4 (qInner "_int2digits") ((44, tabObj #[rawInt (75 : Nat), rawInt (4 : Nat), .ref c']) :: (add ++ cs)) := ⟨_, _, rfl, c44, .inr ⟨c', oc, vs₀, t₀, rfl, hcm', hcd, hcv⟩⟩
  have hDt : ∀ p ∈ (44, tabObj #[rawInt (75 : Nat), rawInt (4 : Nat), .ref c']) :: (add ++ cs), p.1 ≠ D := fun p hp => by
    rcases List.mem_cons.mp hp with rfl | hp
    · exact Nat.ne_of_lt lD
    · exact cD p hp
  clear N₅ F₃ N₃ N₄ hcm c1 c2 c3 l₁
  walk_at "m go"
  · rename_i h₅ o1' F₅ N₆ d1'' ha0 t₅ tk₆
    have N₇ := permD N₆
    have hgf : Sub (h₅.hide D) h₅ := hide_sub
    have kf := (Heap.hide_ne h₅ (Nat.ne_of_gt lfD)).trans (News.get N₆ (.tail _ (.tail _ (.head _))))
    have kf' : FnAt f (h₅.hide D) := ⟨_, _, _, _, kf⟩
    have k3 : (h₅.hide D).get? (L + 1 + 1 + 1) = some o1' := (Heap.hide_ne h₅ (Nat.ne_of_lt lD3)).trans (News.get N₆ (.head _))
    have k2 : (h₅.hide D).get? (L + 1 + 1) = some o2' := (Heap.hide_ne h₅ (Nat.ne_of_lt (by omega))).trans (News.get N₆ (.tail _ (.tail _ (.tail _ (.head _)))))
    have k1 : (h₅.hide D).get? (L + 1) = some o3 := (Heap.hide_ne h₅ (Nat.ne_of_lt (by omega))).trans (News.get N₆ (.tail _ (.tail _ (.tail _ (.tail _ (.head _))))))
    have hmc := N₆ (c', oc) (.tail _ (.tail _ (.tail _ (.tail _ (.tail _ (.tail _ hcm'))))))
    have kc : (h₅.hide D).get? c' = some oc := (Heap.hide_ne h₅ (cD _ hcm')).trans hmc.1
    have T₅ := T.keeps (hide_above F₅ N₇)
    have X₅ := X.keeps (hide_above F₅ N₇)
    generalize hgeq : h₅.hide D = gf at hgf kf kf' k3 k2 k1 kc T₅ X₅
    have key : ∀ (k x Lo R : Nat) (A' : Around) (s' : Shared) (g' : Heap) (vs' : List Value) (ds : List Int) (n' : Nat) (Q' E' : Value → Shared → Prop) (ta tb tc : Tok),
        0 < k → R = Lo + k → Sub gf g' → Sub g' s'.heap → g'.objs.size ≤ s'.heap.objs.size → g'.get? D = none → s'.heap.get? D = some (listOf vs'.toArray n') → IntsAre vs' ds → R ≤ vs'.length → vs'.length < 1000 →
        x < 2 ^ (k * n) → x < 2 ^ 64 → k < 100 → A'.depth + k < recursionLimit →
        (∀ h' tk' vs'' n'', Sub g' h' → h'.get? D = some (listOf (List.toArray vs'') n'') → IntsAre vs'' (putD ds Lo (digs n k x)) → Q' .none { s' with heap := h', toks := tk' }) →
        wpAny (model PG w) A' (call (.ref f) [.int x ta, .int Lo tb, .int R tc]) Q' E' s' := by
      intro k
      induction k using Nat.strongRecOn with
      | _ k ih =>
      intro x Lo R A' s' g' vs' ds n' Q' E' ta tb tc hk hR hsub hg' hsz' hD' hl' hi' hRl hl1 hx hx64 hk1 hroom' hQ'
      have T' := T₅.keeps hsub
      have X' := X₅.keeps hsub
      have kf₁ : FnAt f g' := by obtain ⟨a1, a2, a3, a4, e⟩ := kf'; exact ⟨a1, a2, a3, a4, hsub _ _ e⟩
      have k3' := hsub _ _ k3
      have k2' := hsub _ _ k2
      have k1' := hsub _ _ k1
      refine' enter_fn (news := [(D, listOf vs'.toArray n')]) hg' hsz' ?hN T'.nolimit (hsub _ _ kf) ?hd ?hcd ?hroom ?hbind ?hloc ?_ ?hcell ?hco ?hgen ?hk
      case hN => exact (List.forall_mem_cons (l := [])).mpr ⟨⟨hl', hD'⟩, List.forall_mem_nil _⟩
      case hd => exact rfl
      case hcd => exact ⟨c', oc, vs₀, t₀, rfl, hsub _ _ kc, hcd, hcv⟩
      case hroom => omega
      case hbind => exact BindsTo.of_eq rfl
      case hloc => exact locs rfl
      case hcell => decide
      case hco => exact rfl
      case hgen => exact rfl
      case hk => exact rfl
      intro L₂ h₆ F₆' N₈ l₆
      obtain ⟨m₆, F₆, e1, e2, e3⟩ : ∃ m, Fr g' L₂ h₆ m ∧ m (Str.ofString "x") = some (.int x ta) ∧ m (Str.ofString "L") = some (.int Lo tb) ∧ m (Str.ofString "R") = some (.int R tc) := ⟨_, F₆', rfl, rfl, rfl⟩
      clear F₆' F₅ N₆ N₇
      try dsimp only
      walk_at "m go2"
      · rename_i hb tkb h₇ F₇ N₉
        have hk1' : k = 1 := by omega
        subst hk1'
        refine hQ' h₇ _ _ n' F₇.keep (News.get N₉ (.head _)) ?_
        have e : putD ds Lo (digs n 1 x) = ds.set Lo (x : Int) := by
          have hxn : x % 2 ^ n = x := Nat.mod_eq_of_lt (by rw [Nat.one_mul] at hx; exact hx)
          rw [putD_one (by rw [← hi'.length]; omega), digs, digs, hxn]
        rw [e]
        exact ints_set hi' Lo
      · have hk2 : 2 ≤ k := by
          have : ¬ ((Lo : Int) + 1 = R) := by assumption
          omega
        refine m_shr (x := Lo + R) (sh := 1) (by omega) (by omega) ?_
        intro tm tkm
        rw [show (Lo + R) / 2 ^ 1 = Lo + k / 2 by rw [hR]; exact mid_num Lo k]
        obtain ⟨v1, v2, v3, v4, v5⟩ := half_num hk2
        have w1 : Lo + k / 2 ≤ vs'.length := Nat.le_trans (by rw [hR]; exact Nat.add_le_add_left (Nat.le_of_lt v2) Lo) hRl
        walk_at "m go2"
        refine m_mulN (by omega) (by omega) ?_
        intro tn tkn
        have hsh : (((Lo + k / 2 : Nat) : Int) - (Lo : Int)) * (n : Int) = ((k / 2 * n : Nat) : Int) := by
          have e0 : ((Lo + k / 2 : Nat) : Int) - (Lo : Int) = ((k / 2 : Nat) : Int) := by rw [Int.natCast_add, Int.add_comm, Int.add_sub_cancel]
          rw [e0]; push_cast; rfl
        rw [hsh]
        walk_at "m go2"
        refine m_shr (x := x) (sh := k / 2 * n) rfl rfl ?_
        intro tu tku
        walk_at "m go2"
        have hsz1 : k / 2 * n ≤ 100000 := Nat.le_trans (Nat.mul_le_mul (Nat.le_of_lt (Nat.lt_trans v2 hk1)) (Nat.le_of_lt hn2)) (by decide)
        have hup : x / 2 ^ (k / 2 * n) ≤ x := Nat.div_le_self _ _
        refine m_shl (x := x / 2 ^ (k / 2 * n)) (sh := k / 2 * n) rfl rfl (Nat.lt_of_le_of_lt hup hx64) hsz1 ?_
        intro tl' tkl
        walk_at "m go2"
        refine m_xlow ?_
        intro tx' tkx
        walk_at "m go2"
        rename_i h₇ F₇ N₉
        have hpk : 2 ^ (k * n) = 2 ^ (k / 2 * n) * 2 ^ ((k - k / 2) * n) := by
          rw [← Nat.pow_add, ← Nat.add_mul]; congr 2; exact v5.symm
        have hml := Nat.mod_le x (2 ^ (k / 2 * n))
        refine ih (k / 2) v2 (x % 2 ^ (k / 2 * n)) Lo (Lo + k / 2) _ _ (h₇.hide D) vs' ds n' _ _ _ _ _ v1 rfl (Sub.trans hsub (hide_above F₇ N₉)) hide_sub (Nat.le_of_eq (Heap.hide_size _ _)) (Heap.hide_self _ _) (News.get N₉ (.head _)) hi' w1 hl1
          (Nat.mod_lt _ (Nat.two_pow_pos _)) (Nat.lt_of_le_of_lt hml hx64) (Nat.lt_trans v2 hk1) (half_room v2 hroom') ?_
        intro h₈ tk₈ vs₂ n₂ hs₈ hl₈ hi₈
        obtain ⟨F₈, N₁₀⟩ := hide_back F₇ N₉ (fun _ h => nomatch h) hs₈ hl₈
        have hlen2 : (putD ds Lo (digs n (k / 2) (x % 2 ^ (k / 2 * n)))).length = ds.length := putD_length (by rw [digs_length, ← hi'.length]; exact w1)
        have hv2 : vs₂.length = vs'.length := by rw [hi₈.length, hlen2, hi'.length]
        clear F₇ N₉
        walk_at "m go2"
        refine ih (k - k / 2) v4 (x / 2 ^ (k / 2 * n)) (Lo + k / 2) R _ _ g' vs₂ _ n₂ _ _ _ _ _ v3 (by rw [hR, Nat.add_assoc, v5]) hsub (Fr.keep (by k_asm)) (Fr.size (by k_asm)) hD' (News.get (by k_asm) (.head _)) hi₈ (by rw [hv2]; exact hRl) (by rw [hv2]; exact hl1)
          (Nat.div_lt_of_lt_mul (by rw [← hpk]; exact hx)) (Nat.lt_of_le_of_lt hup hx64) (Nat.lt_trans v4 hk1) (half_room v4 hroom') ?_
        intro h₁₀ tk₁₀ vs₃ n₃ hs₁₀ hl₁₀ hi₁₀
        walk_at "m go2"
        refine hQ' _ _ vs₃ n₃ hs₁₀ hl₁₀ ?_
        have e := putD_two (ds := ds) (lo := Lo) (xs := digs n (k / 2) (x % 2 ^ (k / 2 * n))) (ys := digs n (k - k / 2) (x / 2 ^ (k / 2 * n))) (by rw [digs_length, digs_length, ← hi'.length, Nat.add_assoc, v5, ← hR]; exact hRl)
        rw [digs_length, ← digs_add, v5] at e
        rw [← e]
        exact hi₁₀
    subst hgeq
    refine key (nDig a n) a 0 vs.length _ _ (h₅.hide D) vs _ 0 _ _ _ _ _ ?_ (by omega) (fun _ _ e => e) hide_sub (Nat.le_of_eq (Heap.hide_size _ _)) (Heap.hide_self _ _) (News.get N₇ (.head _)) hvs (Nat.le_refl _) (by omega) (nDig_lt hn) ha64 ha (by show A.depth + 1 + nDig a n < recursionLimit; omega) ?_
    · rcases Nat.eq_zero_or_pos (nDig a n) with h | h
      · have h1 := nDig_lt (a := a) hn
        rw [h, Nat.zero_mul] at h1
        exact absurd ha0 (by omega)
      · exact h
    intro h₆ tk₇ vs₃ n₃ hs₃ hl₃ hi₃
    obtain ⟨F₆, N₈⟩ := hide_back F₅ N₇ (fun p hp => by
      rcases List.mem_cons.mp hp with rfl | hp
      · exact Nat.ne_of_lt lD3
      · rcases List.mem_cons.mp hp with rfl | hp
        · exact Nat.ne_of_gt lfD
        · rcases List.mem_cons.mp hp with rfl | hp
          · exact Nat.ne_of_lt (show @LT.lt Nat _ (L + 1 + 1) D by omega)
          · rcases List.mem_cons.mp hp with rfl | hp
            · exact Nat.ne_of_lt (show @LT.lt Nat _ (L + 1) D by omega)
            · exact hDt p hp) hs₃ hl₃
    clear F₅ N₆ N₇ key
    rw [putD_all (by rw [digs_length, List.length_replicate])] at hi₃
    walk_at "m go"
    refine hQ _ _ D vs₃ n₃ _ F₆.keep htl' (fun p hp => ?_) hDt hi₃
    rcases List.mem_cons.mp hp with rfl | hp
    · exact ⟨(N₈ _ (.head _)).1, (N₈ _ (.head _)).2.2⟩
    · have z := N₈ p (.tail _ (.tail _ (.tail _ (.tail _ (.tail _ hp)))))
      exact ⟨z.1, z.2.2⟩
  · rename_i h₅ o1' F₅ N₆ d1'' ha0
    have ha' : a = 0 := by omega
    subst ha'
    rw [nDig_zero hn] at hvs hQ
    cases hvs
    refine hQ _ _ D [] 0 _ F₅.keep htl' (fun p hp => ?_) hDt .nil
    rcases List.mem_cons.mp hp with rfl | hp
    · exact ⟨(N₆ _ (.tail _ (.head _))).1, (N₆ _ (.tail _ (.head _))).2.2⟩
    · have z := N₆ p (.tail _ (.tail _ (.tail _ (.tail _ (.tail _ hp)))))
      exact ⟨z.1, z.2.2⟩
-- part DI
set_option maxRecDepth 100000 in
set_option maxHeartbeats 8000000 in
theorem d2i_ok {w : World} {A : Around} {E : Value → Shared → Prop} {s : Shared} {g : Heap} {p : Program} {loose : List Str} {mean : ExcName → Option Value} {mg mb : Str → Option Value} {Q : Value → Shared → Prop}
    {D : Addr} {vs : List Value} {ds : List Nat} {n : Nat} {t2 : Tok} {tl : List (Addr × Obj)}
    (hg : Sub g s.heap) (hsz : g.objs.size ≤ s.heap.objs.size) (X : (hd.heap_1 w.params).In g) (T : Top p loose mean mg mb g) (hroom : A.depth + 100 < recursionLimit) (hu : A.units + 1000 < cLine) (hh : A.handled = none)
    (C : CodeHd g 55 51) (htl : TabL 51 90 4 (qInner "_digits2int") tl) (htab : ∀ p ∈ tl, s.heap.get? p.1 = some p.2 ∧ g.get? p.1 = none)
    (hD : g.IsList D vs.toArray) (hi : IntsAre vs (ds.map fun (d : Nat) => (d : Int))) (hl : ds.length < 100) (hv : valD n ds < 2 ^ 64)
    (hn : 0 < n) (hn2 : n < 100)
    (hQ : ∀ h' tk' t tl', Sub g h' → TabL 51 90 4 (qInner "_digits2int") tl' → (∀ p ∈ tl', h'.get? p.1 = some p.2 ∧ g.get? p.1 = none) → Q (.int (valD n ds : Nat) t) { s with heap := h', toks := tk' }) :
    wpAny (model PG w) A (call (.ref 56) [.ref D, .int n t2]) Q E s := by
  obtain ⟨ps, cs, rfl, hcs, hps⟩ := htl
  walk_at "m entC"
  case hN => exact htab
  case k8 => exact Nat.lt_of_le_of_lt (Nat.le_add_right _ _) hroom
  intro L h tk cells F' N' Y' l1
  k_cells Y'
  simp only [List.cons_append, List.nil_append] at N'
  try dsimp only
  rename_i o1 o2 o3 d1 d2 d3
  have d1' : o1.data = .cell none := d1
  have d2' : o2.data = .cell (some (.int n t2)) := d2
  have d3' : o3.data = .cell (some (.ref D)) := d3
  obtain ⟨m₀, F₀⟩ : ∃ m, Fr g L h m := ⟨_, F'⟩
  have c3 : ∀ p ∈ cs, p.1 ≠ L + 1 + 1 + 1 := fun p hp => Nat.ne_of_lt (Nat.lt_succ_of_lt (Nat.lt_succ_of_lt (Nat.lt_succ_of_lt (l1 p (.tail _ hp)))))
  have l51 : @LT.lt Nat _ 51 L := l1 _ (.head _)
  clear F' d1 d2 d3
  walk_at "m go"
  have N₄ : News g L h ((51, tabObj ps) :: (L + 1 + 1 + 1, o1) :: (L + 1 + 1, o2) :: (L + 1, o3) :: cs) := News.sub N' fun p hp => by
    revert p; walk_at "m me"
  refine' nestDef_K ?d0 ?k0 ?a0 ?_
  case d0 => exact rfl
  case k0 => exact rfl
  case a0 => exact rfl
  refine' nest_any F₀ N₄ T C ?hc ?hr ?hp ?hcl ?_
  case hc => rfl
  case hr => k_all
  case hp => exact hps.imp id fun ⟨c, oc, vs, t, e, hm, hd, hv⟩ => ⟨c, oc, vs, t, e, .tail _ (.tail _ (.tail _ hm)), hd, hv⟩
  case hcl => exact rfl
  intro f c' oc vs₀ t₀ ctv doc add h₄ tk₄ F₄ N₅ hcm hcd hcv hadd hf
  have N₆ := permN3 N₅
  have hcm' : (c', oc) ∈ add ++ cs := by
    simp only [List.mem_append, List.mem_cons, Prod.mk.injEq] at hcm ⊢
    rcases hcm with h | h | h | h | h
    · exact .inl h
    · rw [h.2, d1'] at hcd; cases hcd
    · rw [h.2, d2'] at hcd; cases hcd
    · rw [h.2, d3'] at hcd; cases hcd
    · exact .inr h
  have lf3 : @LT.lt Nat _ (L + 1 + 1 + 1) f := hf (L + 1 + 1 + 1, o1) (.tail _ (List.mem_append_right _ (.head _)))
  have c3' : ∀ p ∈ add ++ cs, p.1 ≠ L + 1 + 1 + 1 := fun p hp => by
    rcases List.mem_append.mp hp with hp | hp
    · exact Nat.ne_of_gt (hadd p hp (L + 1 + 1 + 1, o1) (.tail _ (.head _)))
    · exact c3 p hp
  have c51 : ∀ p ∈ add ++ cs, p.1 ≠ 51 := fun p hp => by
    rcases List.mem_append.mp hp with hp | hp
    · exact Nat.ne_of_gt (hadd p hp _ (.head _))
    · exact hcs p hp
  have htl' : TabL 51 90 4 (qInner "_digits2int") ((51, tabObj #[rawInt (90 : Nat), rawInt (4 : Nat), .ref c']) :: (add ++ cs)) := ⟨_, _, rfl, c51, .inr ⟨c', oc, vs₀, t₀, rfl, hcm', hcd, hcv⟩⟩
  clear N₅ N₄ N' F₀ hcm c3
  walk_at "m go"
  · rename_i h₅ o1' F₅ N₇ d1'' hne
    have kf := News.get N₇ (.tail _ (.head _))
    have kf' : FnAt f h₅ := ⟨_, _, _, _, kf⟩
    have k3 : h₅.get? (L + 1 + 1 + 1) = some o1' := News.get N₇ (.head _)
    have k2 : h₅.get? (L + 1 + 1) = some o2 := News.get N₇ (.tail _ (.tail _ (.head _)))
    have k1 : h₅.get? (L + 1) = some o3 := News.get N₇ (.tail _ (.tail _ (.tail _ (.head _))))
    have kc : h₅.get? c' = some oc := News.get N₇ (.tail _ (.tail _ (.tail _ (.tail _ (.tail _ hcm')))))
    have T₅ := T.keeps F₅.keep
    have X₅ := X.keeps F₅.keep
    have D₅ : h₅.IsList D vs.toArray := PyProof.Rows.Fr.lst F₅ hD
    have key : ∀ (k Lo R : Nat) (A' : Around) (s' : Shared) (g' : Heap) (Q' E' : Value → Shared → Prop) (tb tc : Tok),
        0 < k → R = Lo + k → Sub h₅ g' → Sub g' s'.heap → g'.objs.size ≤ s'.heap.objs.size → R ≤ ds.length → k < 100 → A'.depth + k < recursionLimit →
        (∀ h' tk' t, Sub g' h' → Q' (.int (valD n ((ds.drop Lo).take k) : Nat) t) { s' with heap := h', toks := tk' }) →
        wpAny (model PG w) A' (call (.ref f) [.int Lo tb, .int R tc]) Q' E' s' := by
      intro k
      induction k using Nat.strongRecOn with
      | _ k ih =>
      intro Lo R A' s' g' Q' E' tb tc hk hR hsub hg' hsz' hRl hk1 hroom' hQ'
      have T' := T₅.keeps hsub
      have X' := X₅.keeps hsub
      have kf₁ : FnAt f g' := by obtain ⟨a1, a2, a3, a4, e⟩ := kf'; exact ⟨a1, a2, a3, a4, hsub _ _ e⟩
      have k3' := hsub _ _ k3
      have k2' := hsub _ _ k2
      have k1' := hsub _ _ k1
      have D' : g'.IsList D vs.toArray := by obtain ⟨o, ho, r⟩ := D₅; exact ⟨o, hsub _ _ ho, r⟩
      have hds : vs.length = ds.length := by rw [hi.length, List.length_map]
      refine' enter_fn (news := []) hg' hsz' ?hN T'.nolimit (hsub _ _ kf) ?hd ?hcd ?hroom ?hbind ?hloc ?_ ?hcell ?hco ?hgen ?hk
      case hN => exact List.forall_mem_nil _
      case hd => exact rfl
      case hcd => exact ⟨c', oc, vs₀, t₀, rfl, hsub _ _ kc, hcd, hcv⟩
      case hroom => omega
      case hbind => exact BindsTo.of_eq rfl
      case hloc => exact locs rfl
      case hcell => decide
      case hco => exact rfl
      case hgen => exact rfl
      case hk => exact rfl
      intro L₂ h₆ F₆' N₈ l₆
      obtain ⟨m₆, F₆, e2, e3⟩ : ∃ m, Fr g' L₂ h₆ m ∧ m (Str.ofString "L") = some (.int Lo tb) ∧ m (Str.ofString "R") = some (.int R tc) := ⟨_, F₆', rfl, rfl⟩
      clear F₆' F₅ N₇ hD D₅
      try dsimp only
      walk_at "m go2"
      · have hk1' : k = 1 := by
          have : (Lo : Int) + 1 = R := by assumption
          omega
        subst hk1'
        have e : (ds.map fun (d : Nat) => (d : Int)).getD (Lo : Int).toNat 0 = ((valD n ((ds.drop Lo).take 1) : Nat) : Int) := by
          rw [Int.toNat_natCast, getD_cast, slice_one (by omega)]
          simp [valD]
        have hq := hQ' h₆
        rw [← e] at hq
        exact hq _ _ F₆.keep
      · have hk2 : 2 ≤ k := by
          have : ¬ ((Lo : Int) + 1 = R) := by assumption
          omega
        refine m_shr (x := Lo + R) (sh := 1) (by omega) (by omega) ?_
        intro tm tkm
        rw [show (Lo + R) / 2 ^ 1 = Lo + k / 2 by rw [hR]; exact mid_num Lo k]
        obtain ⟨v1, v2, v3, v4, v5⟩ := half_num hk2
        have w1 : Lo + k / 2 ≤ ds.length := Nat.le_trans (by rw [hR]; exact Nat.add_le_add_left (Nat.le_of_lt v2) Lo) hRl
        walk_at "m go2"
        refine m_mulN (by omega) (by omega) ?_
        intro tn tkn
        have hsh : (((Lo + k / 2 : Nat) : Int) - (Lo : Int)) * (n : Int) = ((k / 2 * n : Nat) : Int) := by
          have e0 : ((Lo + k / 2 : Nat) : Int) - (Lo : Int) = ((k / 2 : Nat) : Int) := by rw [Int.natCast_add, Int.add_comm, Int.add_sub_cancel]
          rw [e0]; push_cast; rfl
        rw [hsh]
        walk_at "m go2"
        have hsz1 : k / 2 * n ≤ 100000 := Nat.le_trans (Nat.mul_le_mul (Nat.le_of_lt (Nat.lt_trans v2 hk1)) (show n ≤ 100 by omega)) (by decide)
        rename_i h₇ F₇ N₉
        refine ih (k - k / 2) v4 (Lo + k / 2) R _ _ h₇ _ _ _ _ v3 (by rw [hR, Nat.add_assoc, v5]) (Sub.trans hsub F₇.keep) (fun _ _ e => e) (Nat.le_refl _) hRl (Nat.lt_trans v4 hk1) (half_room v4 hroom') ?_
        intro h₈ tk₈ tv₈ hs₈
        have F₈ := F₇.after hs₈
        have N₁₀ : News g' L₂ h₈ [] := News.nil
        clear F₇ N₉
        walk_at "m go2"
        refine m_shl (x := valD n ((ds.drop (Lo + k / 2)).take (k - k / 2))) (sh := k / 2 * n) rfl rfl (Nat.lt_of_le_of_lt (valD_slice_le _ _ _ _) hv) hsz1 ?_
        intro tl' tkl
        walk_at "m go2"
        refine ih (k / 2) v2 Lo (Lo + k / 2) _ _ h₈ _ _ _ _ v1 rfl (Sub.trans hsub F₈.keep) (fun _ _ e => e) (Nat.le_refl _) w1 (Nat.lt_trans v2 hk1) (half_room v2 hroom') ?_
        intro h₉ tk₉ tv₉ hs₉
        have F₉ := F₈.after hs₉
        walk_at "m go2"
        have e : ((valD n ((ds.drop (Lo + k / 2)).take (k - k / 2)) * 2 ^ (k / 2 * n) : Nat) : Int) + ((valD n ((ds.drop Lo).take (k / 2)) : Nat) : Int) = ((valD n ((ds.drop Lo).take k) : Nat) : Int) := by
          rw [slice_two ds Lo k (k / 2) (Nat.le_of_lt v2), valD_append, List.length_take, List.length_drop, Nat.min_eq_left (Nat.le_sub_of_add_le (by rw [Nat.add_comm]; exact w1)), Nat.mul_comm (2 ^ (k / 2 * n)), Int.natCast_add, Int.add_comm]
        have hq := hQ' h₉
        rw [← e] at hq
        exact hq _ _ F₉.keep
    have e : (((ds.map fun (d : Nat) => (d : Int)).length : Nat) : Int) = ((ds.length : Nat) : Int) := by rw [List.length_map]
    rw [e]
    rw [List.length_map] at hne
    refine key ds.length 0 ds.length _ _ h₅ _ _ _ _ hne (by omega) (fun _ _ e => e) (fun _ _ e => e) (Nat.le_refl _) (Nat.le_refl _) hl (by show A.depth + 1 + ds.length < recursionLimit; omega) ?_
    intro h₆ tk₆ t₆ hs₆
    have e2 : (ds.drop 0).take ds.length = ds := by simp
    rw [e2]
    refine hQ _ _ _ _ (Sub.trans F₅.keep hs₆) htl' fun p hp => ?_
    have z := N₇ p (.tail _ (.tail _ (.tail _ (.tail _ hp))))
    exact ⟨hs₆ _ _ z.1, z.2.2⟩
  · rename_i h₅ o1' F₅ N₇ d1'' hne
    have hd0 : ds = [] := by
      rw [List.length_map] at hne
      exact List.eq_nil_of_length_eq_zero (by omega)
    subst hd0
    refine hQ _ _ _ _ F₅.keep htl' fun p hp => ?_
    have z := N₇ p (.tail _ (.tail _ (.tail _ (.tail _ hp))))
    exact ⟨z.1, z.2.2⟩
end
example {w : World} {A : Around} {E Q : Value → Shared → Prop} {s : Shared} (h : wpAny (model PySem.Challenge.pw_qu0043_01 w) A (call (.ref 0) []) Q E s) : wpAny (model PySem.Challenge.pw_qu0043_01 w) A (call (.ref 0) []) Q E s := by w_top off; first | (walk1; fail) | exact h
-- part DvR
set_option maxRecDepth 100000
section
theorem noPy {x : Int} {b : Nat} (h : b < 2 ^ 64) : Builtin.divisionGoesByPylong x (b : Int) = false := by
  refine PyProof.noPylong_of_log2 ?_
  rw [Int.natAbs_natCast]
  by_cases h0 : b = 0
  · subst h0; decide
  · have := (Nat.log2_lt h0).mpr h
    omega
section
variable {prog : Program} {w : World} {A : Around} {E : Value → Shared → Prop} {s : Shared} {h₀ : Heap} {L D : Addr} {m : Str → Option Value} {post : List (Addr × Obj)} {vs : List Value} {n : Nat} {Q : Value → Shared → Prop}
theorem m_reverse (F : Fr h₀ L s.heap m) (N : News h₀ L s.heap ((D, listOf vs.toArray n) :: post)) (hp : ∀ p ∈ post, p.1 ≠ D) (hl : vs.length < 1000000)
    (h : ∀ h', Fr h₀ L h' m → News h₀ L h' ((D, listOf vs.reverse.toArray n) :: post) → Q .none { s with heap := h' }) : wpAny (model prog w) A (call (.builtin "list.reverse") [.ref D]) Q E s := by
  have z := N (D, listOf vs.toArray n) (.head _)
  refine call_meets PySem.F.slot_list_reverse ⟨_, z.1, rfl⟩ PySem.F.entry_list_reverse (PySem.F.args_list_reverse_1 _) (AutoListH.list_reverse_list_0 D vs.toArray n (by rw [List.size_toArray, sizeLine_eq]; omega)) ⟨z.1, h _ (F.change (Heap.SameBut.update ..) z.2.1 z.2.2) (ki_turn (pre := []) _ N (fun _ h => nomatch h) hp ?_ ?_)⟩
  · show vs.toArray.reverse = vs.reverse.toArray
    simp
  · simp
end
section
variable {prog : Program} {w : World} {A : Around} {E : Value → Shared → Prop} {s : Shared} {env : Env} {h₀ : Heap} {x : Str} {body : List Stmt} {Q : Flow → Shared → Prop}
/-- for x in reversed(list): the list on the ledger, the iterator new -/
theorem loop_rev {ax I : Addr} {vs : List Value} {n : Nat} {m : Str → Option Value} {news : List (Addr × Obj)} (J : Nat → (Str → Option Value) → List (Addr × Obj) → Prop) (hh : A.handled = none)
    (F : Fr h₀ env.locals s.heap m) (N : News h₀ env.locals s.heap ((I, revObj ax ((vs.length : Int) - 1)) :: (ax, listOf vs.toArray n) :: news)) (hIa : I ≠ ax) (hnw : ∀ p ∈ news, p.1 ≠ I ∧ p.1 ≠ ax) (hJ : J 0 m news)
    (turn : ∀ i v io m₁ news₁ h tk, vs[vs.length - 1 - i]? = some v → i < vs.length → J i m₁ news₁ → (∀ p ∈ news₁, p.1 ≠ I ∧ p.1 ≠ ax) → Fr h₀ env.locals h (fun y => if y = x then some v else m₁ y) → News h₀ env.locals h ((I, io) :: (ax, listOf vs.toArray n) :: news₁) →
      wpAny (model prog w) A (execs body env) (TurnEnd2 h₀ env.locals I io (ax, listOf vs.toArray n) (J (i + 1)) s Q) E { s with heap := h, toks := tk })
    (done : ∀ h' tk m' news', Fr h₀ env.locals h' m' → News h₀ env.locals h' ((ax, listOf vs.toArray n) :: news') → (∀ p ∈ news', p.1 ≠ ax) → J vs.length m' news' → Q .next { s with heap := h', toks := tk }) :
    wpAny (model prog w) A (pyIter (.ref I)) (fun it s₂ => LoopAtV prog w A h₀ env x body Q E it s₂) E s := by
  have hIx := N _ (.head _)
  have hz := N _ (.tail _ (.head _))
  have hl : s.heap.IsList ax vs.toArray := ⟨_, hz.1, rfl, n, rfl⟩
  have hit : s.heap.IsRevIter I ax ((vs.length : Int) - 1) := ⟨_, hIx.1, rfl, rfl⟩
  refine wpAny_pyIter_revIter hit ?_
  have hne : ax ≠ I := Ne.symm hIa
  have two : ∀ (b : Addr), b ∈ [I, ax] → b = I ∨ b = ax := fun b hb => by simpa using hb
  have one : ∀ (b : Addr), b ∈ [I] → b = I := fun b hb => List.mem_singleton.mp hb
  let J' : Nat → (Str → Option Value) → List (Addr × Obj) → Prop := fun i m₁ news' => ∃ rest, news' = (ax, listOf vs.toArray n) :: rest ∧ (∀ p ∈ rest, p.1 ≠ ax) ∧ J i m₁ rest
  have W := Walks.listRev (prog := prog) (w := w) hh I ax hne vs.toArray
  have hlen : vs.toArray.size = vs.length := by simp
  rw [hlen] at W
  refine ⟨I, [I, ax], [I], vs.length, _, _, m, (ax, listOf vs.toArray n) :: news, J', rfl, W, ?_, ?_, ?_, ?_, F, (fun p hp => N p (.tail _ hp)), ⟨news, rfl, fun p hp => (hnw p hp).2, hJ⟩, ?_, ?_⟩
  · intro h
    rcases two _ h with e | e
    · exact hIx.2.1 e.symm
    · exact hz.2.1 e.symm
  · intro b hb; rw [one b hb]; exact hIx.2.2
  · intro p hp h
    rcases List.mem_cons.mp hp with rfl | hp
    · exact hne (one _ h)
    · exact (hnw p hp).1 (one _ h)
  · refine ⟨Nat.zero_le _, ?_, hl⟩
    have e : (vs.length : Int) - 1 - ((0 : Nat) : Int) = (vs.length : Int) - 1 := by omega
    rw [e]; exact hit
  · rintro i v m₁ news' s₁ own ⟨h₁, tk₁, rfl⟩ hi hP ⟨rest, rfl, hr, hJ₁⟩ hn₁ ho1 ho2 ho3 hst F₁ N₁
    obtain ⟨io, hio, _⟩ := hst.2.1
    have hin := ho3 I (.head _) hIx.2.2 _ hio
    have hax₁ : h₁.get? ax = some (listOf vs.toArray n) := (N₁ _ (List.mem_append_right _ (.head _))).1
    have hv : vs[vs.length - 1 - i]? = some v := by
      have hP' : vs.toArray[vs.length - 1 - i]? = some v := hP
      simpa using hP'
    refine wpAny_mono (turn i v io m₁ rest h₁ tk₁ hv hi hJ₁ (fun p hp => ⟨fun q => hn₁ p (.tail _ hp) (by rw [q]; exact .head _), hr p hp⟩) F₁ (fun p hp => ?_)) (fun f s₂ q => ?_) fun _ _ e => e
    · rcases List.mem_cons.mp hp with rfl | hp
      · exact N₁ _ (List.mem_append_left _ hin)
      · exact N₁ _ (List.mem_append_right _ hp)
    · have fin : (∃ h' tk' m₂ news₂, s₂ = { s with heap := h', toks := tk' } ∧ Fr h₀ env.locals h' m₂ ∧ News h₀ env.locals h' ((I, io) :: (ax, listOf vs.toArray n) :: news₂) ∧ (∀ p ∈ news₂, p.1 ≠ I ∧ p.1 ≠ ax) ∧ J (i + 1) m₂ news₂) → LoopStepU h₀ env.locals [I] own (J' (i + 1)) { s with heap := h₁, toks := tk₁ } .next s₂ := by
        rintro ⟨h', tk', m₂, news₂, rfl, F₂, N₂, hn₂, hJ₂⟩
        refine ⟨rfl, h', tk', m₂, (ax, listOf vs.toArray n) :: news₂, rfl, F₂, fun p hp => ?_, fun p hp q => ?_, news₂, rfl, fun p hp => (hn₂ p hp).2, hJ₂⟩
        · rcases List.mem_append.mp hp with hp | hp
          · have h2 : h₁.get? p.1 = some p.2 := ho2 p hp
            rcases two _ (ho1 p hp) with h1 | h1
            · have h3 : p = (I, io) := Prod.ext h1 (Option.some.inj (h2.symm.trans (by rw [h1]; exact hio)))
              rw [h3]; exact N₂ _ (.head _)
            · have h3 : p = (ax, listOf vs.toArray n) := Prod.ext h1 (Option.some.inj (h2.symm.trans (by rw [h1]; exact hax₁)))
              rw [h3]; exact N₂ _ (.tail _ (.head _))
          · exact N₂ _ (.tail _ hp)
        · have q' := one _ q
          rcases List.mem_cons.mp hp with rfl | hp
          · exact hne q'
          · exact (hn₂ p hp).1 q'
      cases f with
      | ret v => exact q
      | brk => exact q
      | next => exact .next (fin q)
      | cont => exact .cont (fin q)
  · rintro h' tk m' news' F' N' _ ⟨rest, rfl, hr, hJ'⟩
    exact done h' tk m' rest F' N' hr hJ'
end
/-! the division, plainly -/
theorem digs_getD (n : Nat) : ∀ (k x j : Nat), j < k → (digs n k x).getD j 0 = ((x / 2 ^ (j * n) % 2 ^ n : Nat) : Int)
  | 0, _, _, h => absurd h (Nat.not_lt_zero _)
  | k + 1, x, 0, _ => by simp [digs]
  | k + 1, x, j + 1, h => by
    rw [digs, List.getD_cons_succ, digs_getD n k (x / 2 ^ n) j (by omega), Nat.div_div_eq_div_mul, ← Nat.pow_add, Nat.succ_mul, Nat.add_comm]
theorem div_step {b A r q d N : Nat} (hr : A % b = r) (hq : A / b = q) (hb : 0 < b) : (A * N + d) / b = (r * N + d) / b + N * q ∧ (A * N + d) % b = (r * N + d) % b := by
  have h := Nat.div_add_mod A b
  rw [hr, hq] at h
  have e : A * N + d = (r * N + d) + b * (N * q) := by
    rw [← h, Nat.add_mul, Nat.mul_assoc, Nat.mul_comm q N]; omega
  rw [e]
  exact ⟨Nat.add_mul_div_left _ _ hb, Nat.add_mul_mod_self_left _ _ _⟩
end
section
theorem bits_le {x k : Nat} (h : x < 2 ^ k) : Builtin.Int.intBits (x : Int) ≤ k := by
  unfold Builtin.Int.intBits
  split
  · exact Nat.zero_le _
  · rename_i h0
    rw [Int.natAbs_natCast]
    have h1 : x ≠ 0 := by
      intro e; subst e; simp at h0
    have := (Nat.log2_lt h1).mpr h
    omega
theorem nDig_le {a n k : Nat} (hn : 0 < n) (h : a < 2 ^ k) : nDig a n ≤ k := by
  have hb := bits_le h
  unfold nDig
  generalize Builtin.Int.intBits (a : Int) = b at hb
  have h1 : b ≤ n * b := Nat.le_mul_of_pos_left b hn
  have h2 : (b + n - 1) / n < b + 1 := Nat.div_lt_of_lt_mul (by rw [Nat.mul_add, Nat.mul_one]; omega)
  omega
end
section
theorem dv_next {a n K i d : Nat} (hi : i < K) (hd : a / 2 ^ ((K - 1 - i) * n) % 2 ^ n = d) : a / 2 ^ ((K - (i + 1)) * n) = a / 2 ^ ((K - i) * n) * 2 ^ n + d := by
  have e1 : K - (i + 1) = K - 1 - i := by omega
  have e2 : K - i = (K - 1 - i) + 1 := by omega
  rw [e1, e2, Nat.succ_mul, Nat.pow_add, ← Nat.div_div_eq_div_mul, ← hd]
  have := Nat.div_add_mod (a / 2 ^ ((K - 1 - i) * n)) (2 ^ n)
  rw [Nat.mul_comm] at this
  exact this.symm
theorem dv_bits {r n d : Nat} (hr : r < 2 ^ 62) (hn : n ≤ 62) (hd : d < 2 ^ n) : Builtin.Int.intBits ((r * 2 ^ n + d : Nat) : Int) < 1000 := by
  have h1 : 2 ^ n ≤ 2 ^ 62 := Nat.pow_le_pow_right (by decide) hn
  have h2 : r * 2 ^ n ≤ 2 ^ 62 * 2 ^ 62 := Nat.mul_le_mul (Nat.le_of_lt hr) h1
  have h3 : r * 2 ^ n + d < 2 ^ 126 := by
    have : (2 : Nat) ^ 62 * 2 ^ 62 + 2 ^ 62 < 2 ^ 126 := by decide
    omega
  have := bits_le h3
  omega
theorem ints_app {vs : List Value} {xs : List Int} {y : Int} {t : Tok} (h : IntsAre vs xs) : IntsAre (vs ++ [.int y t]) (xs ++ [y]) := by
  induction h with
  | nil => exact .cons _ _ .nil
  | cons x t _ ih => exact .cons _ _ ih
theorem ints_rev {vs : List Value} {xs : List Int} (h : IntsAre vs xs) : IntsAre vs.reverse xs.reverse := by
  induction h with
  | nil => exact .nil
  | cons x t _ ih => rw [List.reverse_cons, List.reverse_cons]; exact ints_app ih
end
section
-- part DV
local macro_rules | `(tactic| walk_at "call builtin:list.reverse") => `(tactic| (k_here; walk_at "m is"; k_dflt (refine' m_reverse (by k_asm) (by k_asm) (by assumption) (by omega) ?_; k_whole); intro h' F' N'; (try k_sweep)))
set_option maxRecDepth 100000 in
set_option maxHeartbeats 8000000 in
theorem div2_ok {w : World} {A : Around} {E : Value → Shared → Prop} {s : Shared} {g : Heap} {p : Program} {loose : List Str} {mean : ExcName → Option Value} {mg mb : Str → Option Value} {Q : Value → Shared → Prop}
    {a b n : Nat} {t1 t2 t3 : Tok}
    (hg : Sub g s.heap) (hsz : g.objs.size ≤ s.heap.objs.size) (X : (hd.heap_1 w.params).In g) (T : Top p loose mean mg mb g) (hroom : A.depth + 5 < recursionLimit) (hu : A.units + 100 < cLine) (hh : A.handled = none)
    (hb : 0 < b) (hb64 : b < 2 ^ 64) (ha : Builtin.Int.intBits (a : Int) < 1000)
    (hQ : ∀ h' tk' D u v k, Sub g h' → h'.get? D = some ({ cls := .type "tuple", data := .seq #[.int (a / b : Nat) u, .int (a % b : Nat) v] k } : Obj) → g.get? D = none → Q (.ref D) { s with heap := h', toks := tk' }) :
    wpAny (model PG w) A (call (.ref 35) [.int a t1, .int b t2, .int n t3]) Q E s := by
  walk_at "m ent"
  case hN => exact List.forall_mem_nil _
  case k8 => exact Nat.lt_of_le_of_lt (Nat.le_add_right _ _) hroom
  intro L h F N l
  try dsimp only
  walk_at "m go"
  have e1 : (a : Int).fdiv (b : Int) = ((a / b : Nat) : Int) := by rw [Int.fdiv_eq_ediv_of_nonneg _ (by omega)]; norm_cast
  have e2 : (a : Int).fmod (b : Int) = ((a % b : Nat) : Int) := by rw [Int.fmod_eq_emod_of_nonneg _ (by omega)]; norm_cast
  refine divmod_N F N (by omega) (fun h' F' N' => ?_) (.inl ?_)
  · rw [e1, e2] at N'
    have z := N' _ (.head _)
    exact hQ h' _ _ _ _ _ F'.keep z.1 z.2.2
  · exact noPy hb64

noncomputable def JDV (a b n : Nat) (K : Nat) (QD : Addr) (tls : List (Addr × Obj)) (i : Nat) (m : Str → Option Value) (news : List (Addr × Obj)) : Prop :=
  ∃ (qs : List Nat) (qvs : List Value) (kq r : Nat) (tr tb tn : Tok), m (Str.ofString "b") = some (.int b tb) ∧ m (Str.ofString "n") = some (.int n tn) ∧ m (Str.ofString "r") = some (.int r tr) ∧ m (Str.ofString "q_digits") = some (.ref QD) ∧
    news = (QD, listOf qvs.toArray kq) :: tls ∧ IntsAre qvs (qs.map fun (d : Nat) => (d : Int)) ∧ qs.length = i ∧ valD n qs.reverse = a / 2 ^ ((K - i) * n) / b ∧ r = a / 2 ^ ((K - i) * n) % b
set_option maxRecDepth 100000 in
set_option maxHeartbeats 8000000 in
theorem divpos_ok {w : World} {A : Around} {E : Value → Shared → Prop} {s : Shared} {g : Heap} {p : Program} {loose : List Str} {mean : ExcName → Option Value} {mg mb : Str → Option Value} {Q : Value → Shared → Prop}
    {a b : Nat} {t1 t2 : Tok} {tlI tlD : List (Addr × Obj)}
    (hg : Sub g s.heap) (hsz : g.objs.size ≤ s.heap.objs.size) (X : (hd.heap_1 w.params).In g) (T : Top p loose mean mg mb g) (hroom : A.depth + 200 < recursionLimit) (hu : A.units + 2000 < cLine) (hh : A.handled = none)
    (CI : CodeHd g 48 44) (CD : CodeHd g 55 51) (htI : TabL 44 75 4 (qInner "_int2digits") tlI) (htD : TabL 51 90 4 (qInner "_digits2int") tlD) (htab : ∀ p ∈ tlI ++ tlD, s.heap.get? p.1 = some p.2 ∧ g.get? p.1 = none) (hdis : ∀ p ∈ tlD, p.1 ∉ tlI.map (·.1))
    (hb : 0 < b) (hb2 : b < 2 ^ 62) (ha : a < 2 ^ 62)
    (hQ : ∀ h' tk' D u v k tlI' tlD', Sub g h' → TabL 44 75 4 (qInner "_int2digits") tlI' → TabL 51 90 4 (qInner "_digits2int") tlD' → (∀ p ∈ tlI' ++ tlD', h'.get? p.1 = some p.2 ∧ g.get? p.1 = none) → (∀ p ∈ tlD', p.1 ∉ tlI'.map (·.1)) →
      h'.get? D = some ({ cls := .type "tuple", data := .seq #[.int (a / b : Nat) u, .int (a % b : Nat) v] k } : Obj) → g.get? D = none → (∀ p ∈ tlI' ++ tlD', p.1 ≠ D) → Q (.ref D) { s with heap := h', toks := tk' }) :
    wpAny (model PG w) A (call (.ref 63) [.int a t1, .int b t2]) Q E s := by
  walk_at "m ent"
  case hN => exact htab
  case k8 => exact Nat.lt_of_le_of_lt (Nat.le_add_right _ _) hroom
  intro L h F' N l
  obtain ⟨m₀, F, e1, e2⟩ : ∃ m, Fr g L h m ∧ m (Str.ofString "a") = some (.int a t1) ∧ m (Str.ofString "b") = some (.int b t2) := ⟨_, F', rfl, rfl⟩
  clear F'
  try dsimp only
  have hn0 : 0 < Builtin.Int.intBits (b : Int) := by
    unfold Builtin.Int.intBits
    rw [if_neg (by simp; omega)]
    omega
  have hnb : Builtin.Int.intBits (b : Int) ≤ 62 := bits_le hb2
  have hbl := bits_lt b
  generalize hn : Builtin.Int.intBits (b : Int) = n at hn0 hnb hbl
  have hK : nDig a n < 100 := Nat.lt_of_le_of_lt (nDig_le hn0 ha) (by decide)
  walk_at "m go"
  rw [hn]
  rename_i h₁ F₁ N₁
  refine i2d_ok (g := hideAll h₁ (tlI.map (·.1))) hideL_sub (Nat.le_of_eq (hideAll_size _ _)) (X.keeps (hideL_above F₁ N₁)) (T.keeps (hideL_above F₁ N₁)) (by show A.depth + 1 + 100 < recursionLimit; exact room2 hroom (by decide)) (by show A.units + 3 + 1000 < cLine; exact room2 hu (by decide)) hh (CI.keeps (hideL_above F₁ N₁)) htI (fun p hp => ⟨(N₁ p (List.mem_append_left _ hp)).1, hideL_none p hp⟩) hn0 (by omega) hK (by omega) ?_
  intro h₂ tk₂ D vs kk tlI₂ hs₂ htI₂ ht₂ hD₂ hvs
  obtain ⟨F₂, N₂, hdis₂⟩ := hideL_back (tl' := (D, listOf vs.toArray kk) :: tlI₂) F₁ N₁ hdis hs₂ ht₂
  clear F₁ N₁
  walk_at "m go"
  rename_i QD h₃ l₃ h₄ F₃ N₃
  simp only [hn] at F₃
  have hKv : vs.length = nDig a n := by rw [hvs.length, digs_length]
  refine' For_invV g ?hx ?hp ?_ ?hs ?hE
  case hx => exact rfl
  case hp => exact rfl
  case hs => exact fun _ => rfl
  case hE => exact PassesOwn.never
  walk_at "m go"
  rename_i I h₅ F₄ N₄ l₄
  obtain ⟨m₄, F₅, f1, f2, f3, f4⟩ : ∃ m, Fr g L h₅ m ∧ m (Str.ofString "b") = some (.int b t2) ∧ (∃ t, m (Str.ofString "n") = some (.int n t)) ∧ (∃ t, m (Str.ofString "r") = some (.int (0 : Nat) t)) ∧ m (Str.ofString "q_digits") = some (.ref QD) := ⟨_, F₄, (by exact e2), ⟨_, rfl⟩, ⟨_, rfl⟩, rfl⟩
  obtain ⟨tn₀, f2⟩ := f2
  obtain ⟨tr₀, f3⟩ := f3
  have hID : I ≠ D := Nat.ne_of_gt (allLt_to l₄.2 (D, listOf vs.toArray kk) (.head _))
  have hIQ : I ≠ QD := Nat.ne_of_gt l₄.1
  have hQD : ∀ p ∈ (D, listOf vs.toArray kk) :: tlI₂ ++ tlD, p.1 ≠ QD := fun p hp => Nat.ne_of_lt (l₃ p hp)
  have hDD : ∀ p ∈ tlI₂ ++ tlD, p.1 ≠ D := fun p hp => by
    rcases List.mem_append.mp hp with hp | hp
    · exact hD₂ p hp
    · exact fun q => hdis₂ p hp (by rw [q]; exact List.mem_cons_self ..)
  have hII : ∀ p ∈ tlI₂ ++ tlD, p.1 ≠ I := fun p hp => Nat.ne_of_lt (allLt_to l₄.2 p (.tail _ hp))
  have N₅ : News g L h₅ ((I, revObj D ((vs.length : Int) - 1)) :: (D, listOf vs.toArray kk) :: (QD, listOf (List.toArray []) 0) :: (tlI₂ ++ tlD)) := News.sub N₄ fun p hp => by
    simp only [List.mem_cons, List.cons_append] at hp ⊢
    rcases hp with h | h | h | h <;> simp [h]
  have hA0 : a / 2 ^ (nDig a n * n) = 0 := Nat.div_eq_of_lt (nDig_lt hn0)
  refine loop_rev (JDV a b n (nDig a n) QD (tlI₂ ++ tlD)) hh F₅ N₅ hID (fun p hp => ?_) ⟨[], [], 0, 0, tr₀, t2, tn₀, f1, f2, f3, f4, rfl, .nil, rfl, ?_, ?_⟩ ?_ ?_
  · rcases List.mem_cons.mp hp with rfl | hp
    · exact ⟨Ne.symm hIQ, Ne.symm (hQD (D, listOf vs.toArray kk) (.head _))⟩
    · exact ⟨hII p hp, hDD p hp⟩
  · rw [Nat.sub_zero, hA0, Nat.zero_div]; rfl
  · rw [Nat.sub_zero, hA0, Nat.zero_mod]
  · rintro i v io m₁ news₁ h₆ tk₆ hvi hi ⟨qs, qvs, kq, r, tr, tb, tn, g1, g2, g3, g4, rfl, hqv, hql, hval, hr⟩ hne F₆ N₆
    obtain ⟨td, hd⟩ := hvs.get (vs.length - 1 - i) ((digs n (nDig a n) a).getD (vs.length - 1 - i) 0) (getD_some (by rw [digs_length]; omega))
    rw [hvi] at hd
    cases hd
    rw [digs_getD n _ _ _ (by omega)] at *
    generalize hdd : a / 2 ^ ((vs.length - 1 - i) * n) % 2 ^ n = d at *
    have F₇ : Fr g L h₆ _ := F₆
    have hrb : r < b := by rw [hr]; exact Nat.mod_lt _ hb
    have N₇ : News g L h₆ ((QD, listOf qvs.toArray kq) :: (I, io) :: (D, listOf vs.toArray kk) :: (tlI₂ ++ tlD)) := News.sub N₆ fun p hp => by
      revert p; walk_at "m me"
    have hpq : ∀ p ∈ (I, io) :: (D, listOf vs.toArray kk) :: (tlI₂ ++ tlD), p.1 ≠ QD := fun p hp => by
      rcases List.mem_cons.mp hp with rfl | hp
      · exact hIQ
      · exact hQD p hp
    clear F₆ N₆ N₅ F₅ N₄ F₄
    have hr64 : r < 2 ^ 64 := Nat.lt_trans hrb (Nat.lt_trans hb2 (by decide))
    have hdl : d < 2 ^ n := by rw [← hdd]; exact Nat.mod_lt _ (Nat.two_pow_pos _)
    walk_at "m go2"
    refine m_shl (x := r) (sh := n) rfl rfl hr64 (by omega) ?_
    intro t₆ tk₆
    walk_at "m go2"
    rw [show ((r * 2 ^ n : Nat) : Int) + (d : Int) = ((r * 2 ^ n + d : Nat) : Int) by push_cast; rfl]
    refine div2_ok (g := h₆) (fun _ _ e => e) (Nat.le_refl _) (X.keeps F₇.keep) (T.keeps F₇.keep) (by show A.depth + 1 + 5 < recursionLimit; exact room2 hroom (by decide)) (by show A.units + 3 + 100 < cLine; exact room2 hu (by decide)) hh hb (Nat.lt_trans hb2 (by decide)) (dv_bits (Nat.lt_trans hrb hb2) hnb hdl) ?_
    intro h₇ tk₇ T₇ u₇ v₇ k₇ hs₇ hT₇ hT₇'
    have hT : IsTup h₇ T₇ _ := ⟨_, hT₇, rfl, _, rfl⟩
    have F₈ := F₇.after hs₇
    have N₈ : News g L h₇ _ := fun p hp => ⟨hs₇ _ _ (N₇ p hp).1, (N₇ p hp).2⟩
    clear F₇ N₇
    walk_at "m go2"
    rename_i h₈ F₉ N₉
    have hst := div_step (N := 2 ^ n) (d := d) hr.symm hval.symm hb
    rw [hKv] at hdd hi
    rw [← dv_next hi hdd] at hst
    rw [show qvs.toArray.push (Value.int (((r * 2 ^ n + d) / b : Nat) : Int) u₇) = (qvs ++ [Value.int (((r * 2 ^ n + d) / b : Nat) : Int) u₇]).toArray by simp] at N₉
    refine ⟨h₈, _, _, (QD, listOf (qvs ++ [Value.int (((r * 2 ^ n + d) / b : Nat) : Int) u₇]).toArray (kq + 1)) :: (tlI₂ ++ tlD), rfl, F₉, News.sub N₉ fun p hp => ?_, fun p hp => ?_, qs ++ [(r * 2 ^ n + d) / b], _, _, (r * 2 ^ n + d) % b, v₇, tb, tn, ?_, ?_, rfl, ?_, rfl, ?_, ?_, ?_, ?_⟩
    · revert p; walk_at "m me"
    · rcases List.mem_cons.mp hp with rfl | hp
      · exact hne (QD, listOf qvs.toArray kq) (.head _)
      · exact hne p (.tail _ hp)
    · exact g1
    · exact g2
    · exact g4
    · rw [List.map_append]; exact ints_app hqv
    · rw [List.length_append, hql]; rfl
    · rw [hst.1, List.reverse_append]
      show _ + 2 ^ n * valD n qs.reverse = _
      rw [hval]
    · rw [hst.2]
  · rintro h₆ tk₆ m₆ news₆ F₆ N₆ hn₆ ⟨qs, qvs, kq, r, tr, tb, tn, g1, g2, g3, g4, rfl, hqv, hql, hval, hr⟩
    have hKK : nDig a n - vs.length = 0 := by omega
    rw [hKK, Nat.zero_mul, Nat.pow_zero, Nat.div_one] at hval hr
    have N₇ : News g L h₆ ((QD, listOf qvs.toArray kq) :: (D, listOf vs.toArray kk) :: (tlI₂ ++ tlD)) := News.swap N₆
    have hpq : ∀ p ∈ (D, listOf vs.toArray kk) :: (tlI₂ ++ tlD), p.1 ≠ QD := hQD
    have hql' : qvs.length < 1000000 := by
      have := hqv.length
      rw [List.length_map] at this
      omega
    have F₇ : Fr g L h₆ m₆ := F₆
    clear N₆ N₅ F₅ N₄ F₄ F₆
    walk_at "m go"
    rename_i h₇ F₈ N₈
    have N₉ : News g L h₇ (tlD ++ (QD, listOf qvs.reverse.toArray kq) :: (D, listOf vs.toArray kk) :: tlI₂) := News.sub N₈ fun p hp => by
      revert p; walk_at "m me"
    have hdis₃ : ∀ p ∈ (QD, listOf qvs.reverse.toArray kq) :: (D, listOf vs.toArray kk) :: tlI₂, p.1 ∉ tlD.map (·.1) := fun p hp q => by
      obtain ⟨t, ht, e⟩ := List.mem_map.mp q
      rcases List.mem_cons.mp hp with rfl | hp
      · exact hpq t (.tail _ (List.mem_append_right _ ht)) e
      · exact hdis₂ t ht (by rw [e]; rcases List.mem_cons.mp hp with rfl | hp; exact .head _; exact .tail _ (List.mem_map_of_mem hp))
    have hQl : (hideAll h₇ (tlD.map (·.1))).IsList QD qvs.reverse.toArray := ⟨_, hideAll_get _ (N₈ _ (.head _)).1 (hdis₃ _ (.head _)), rfl, _, rfl⟩
    refine d2i_ok (g := hideAll h₇ (tlD.map (·.1))) (ds := qs.reverse) hideL_sub (Nat.le_of_eq (hideAll_size _ _)) (X.keeps (hideL_above F₈ N₉)) (T.keeps (hideL_above F₈ N₉)) (by show A.depth + 1 + 100 < recursionLimit; exact room2 hroom (by decide)) (by show A.units + 3 + 1000 < cLine; exact room2 hu (by decide)) hh (CD.keeps (hideL_above F₈ N₉)) htD (fun p hp => ⟨(N₉ p (List.mem_append_left _ hp)).1, hideL_none p hp⟩) hQl (by rw [List.map_reverse]; exact ints_rev hqv) (by rw [List.length_reverse]; omega) (by rw [hval]; exact Nat.lt_of_le_of_lt (Nat.div_le_self a b) (Nat.lt_trans ha (by decide))) hn0 (by omega) ?_
    intro h₈ tk₈ tq tlD₂ hs₈ htD₂ ht₈
    obtain ⟨F₁₀, N₁₀, hdis₄⟩ := hideL_back (tl' := tlD₂) F₈ N₉ hdis₃ hs₈ ht₈
    rw [hval]
    clear F₈ N₉ N₈
    walk_at "m go"
    rename_i D₉ h₉ F₉ N₉ l₉
    have z := N₉ _ (.head _)
    rw [hr] at z
    refine hQ _ _ _ _ _ _ tlI₂ tlD₂ F₉.keep htI₂ htD₂ (fun p hp => ?_) (fun p hp q => ?_) z.1 z.2.2 fun p hp => Nat.ne_of_lt (l₉ p ?_)
    · have y := N₉ p (by simp only [List.mem_cons, List.mem_append] at hp ⊢; rcases hp with h | h <;> simp [h])
      exact ⟨y.1, y.2.2⟩
    · obtain ⟨t, ht, e⟩ := List.mem_map.mp q
      exact hdis₄ t (.tail _ (.tail _ ht)) (by rw [e]; exact List.mem_map_of_mem hp)
    · revert p; walk_at "m me"
end
example {w : World} {A : Around} {E Q : Value → Shared → Prop} {s : Shared} (h : wpAny (model PySem.Challenge.pw_qu0043_01 w) A (call (.ref 0) []) Q E s) : wpAny (model PySem.Challenge.pw_qu0043_01 w) A (call (.ref 0) []) Q E s := by w_top off; first | (walk1; fail) | exact h
section
-- part IM
set_option maxRecDepth 100000 in
set_option maxHeartbeats 8000000 in
theorem idmP_ok {w : World} {A : Around} {E : Value → Shared → Prop} {s : Shared} {g : Heap} {p : Program} {loose : List Str} {mean : ExcName → Option Value} {mg mb : Str → Option Value} {Q : Value → Shared → Prop}
    {a b : Nat} {t1 t2 : Tok} {tlI tlD : List (Addr × Obj)}
    (hg : Sub g s.heap) (hsz : g.objs.size ≤ s.heap.objs.size) (X : (hd.heap_1 w.params).In g) (T : Top p loose mean mg mb g) (hroom : A.depth + 300 < recursionLimit) (hu : A.units + 3000 < cLine) (hh : A.handled = none)
    (CI : CodeHd g 48 44) (CD : CodeHd g 55 51) (htI : TabL 44 75 4 (qInner "_int2digits") tlI) (htD : TabL 51 90 4 (qInner "_digits2int") tlD) (htab : ∀ p ∈ tlI ++ tlD, s.heap.get? p.1 = some p.2 ∧ g.get? p.1 = none) (hdis : ∀ p ∈ tlD, p.1 ∉ tlI.map (·.1))
    (hb : 0 < b) (hb2 : b < 2 ^ 62) (ha : a < 2 ^ 62)
    (hQ : ∀ h' tk' D u v k tlI' tlD', Sub g h' → TabL 44 75 4 (qInner "_int2digits") tlI' → TabL 51 90 4 (qInner "_digits2int") tlD' → (∀ p ∈ tlI' ++ tlD', h'.get? p.1 = some p.2 ∧ g.get? p.1 = none) → (∀ p ∈ tlD', p.1 ∉ tlI'.map (·.1)) →
      h'.get? D = some ({ cls := .type "tuple", data := .seq #[.int (a / b : Nat) u, .int (a % b : Nat) v] k } : Obj) → g.get? D = none → (∀ p ∈ tlI' ++ tlD', p.1 ≠ D) → Q (.ref D) { s with heap := h', toks := tk' }) :
    wpAny (model PG w) A (call (.ref 70) [.int a t1, .int b t2]) Q E s := by
  walk_at "m ent"
  case hN => exact htab
  case k8 => exact Nat.lt_of_le_of_lt (Nat.le_add_right _ _) hroom
  intro L h F' N l
  obtain ⟨m₀, F, e1, e2⟩ : ∃ m, Fr g L h m ∧ m (Str.ofString "a") = some (.int a t1) ∧ m (Str.ofString "b") = some (.int b t2) := ⟨_, F', rfl, rfl⟩
  clear F'
  try dsimp only
  walk_at "m go"
  · have hb0 : (b : Int) = 0 := by assumption
    omega
  · refine divpos_ok (g := g) F.keep (Fr.size F) X T (by show A.depth + 1 + 200 < recursionLimit; exact room2 hroom (by decide)) (by show A.units + 3 + 2000 < cLine; exact room2 hu (by decide)) hh CI CD htI htD (fun p hp => ⟨(N p hp).1, (N p hp).2.2⟩) hdis hb hb2 ha ?_
    intro h' tk' D u v k tlI' tlD' k1 k2 k3 k4 k5 k6 k7 k8
    exact hQ h' tk' D u v k tlI' tlD' k1 k2 k3 k4 k5 k6 k7 k8
theorem fdiv_nat (n b : Nat) : (n : Int).fdiv (b : Int) = ((n / b : Nat) : Int) ∧ (n : Int).fmod (b : Int) = ((n % b : Nat) : Int) := by
  rw [Int.fdiv_eq_ediv_of_nonneg _ (by omega), Int.fmod_eq_emod_of_nonneg _ (by omega)]
  constructor <;> norm_cast
theorem fdiv_neg {a : Int} {b : Nat} (hb : 0 < b) (ha : a < 0) : a.fdiv b = -(((-a - 1).toNat / b : Nat) : Int) - 1 ∧ a.fmod b = (b : Int) + (-(((-a - 1).toNat % b : Nat) : Int) - 1) := by
  rw [Int.fdiv_eq_ediv_of_nonneg _ (by omega), Int.fmod_eq_emod_of_nonneg _ (by omega)]
  obtain ⟨n, rfl⟩ : ∃ n : Nat, a = -(n : Int) - 1 := ⟨(-a - 1).toNat, by omega⟩
  have e : (-(-(n : Int) - 1) - 1).toNat = n := by omega
  rw [e]
  have h1 := Nat.div_add_mod n b
  have h2 := Nat.mod_lt n hb
  have h3 : (b : Int) * ((n / b : Nat) : Int) + ((n % b : Nat) : Int) = (n : Int) := by exact_mod_cast h1
  have key : -(n : Int) - 1 = ((b : Int) + (-((n % b : Nat) : Int) - 1)) + (b : Int) * (-((n / b : Nat) : Int) - 1) := by
    rw [Int.mul_sub, Int.mul_neg]; omega
  have lo : 0 ≤ (b : Int) + (-((n % b : Nat) : Int) - 1) := by omega
  have hi : (b : Int) + (-((n % b : Nat) : Int) - 1) < b := by omega
  generalize (b : Int) + (-((n % b : Nat) : Int) - 1) = R at *
  generalize -((n / b : Nat) : Int) - 1 = Qq at *
  rw [key]
  constructor
  · rw [Int.add_mul_ediv_left _ _ (by omega), Int.ediv_eq_zero_of_lt lo hi, Int.zero_add]
  · rw [Int.add_mul_emod_self_left, Int.emod_eq_of_lt lo hi]
set_option maxRecDepth 100000 in
set_option maxHeartbeats 8000000 in
theorem idm_ok {w : World} {A : Around} {E : Value → Shared → Prop} {s : Shared} {g : Heap} {p : Program} {loose : List Str} {mean : ExcName → Option Value} {mg mb : Str → Option Value} {Q : Value → Shared → Prop}
    {a : Int} {b : Nat} {t1 t2 : Tok} {tlI tlD : List (Addr × Obj)}
    (hg : Sub g s.heap) (hsz : g.objs.size ≤ s.heap.objs.size) (X : (hd.heap_1 w.params).In g) (T : Top p loose mean mg mb g) (hroom : A.depth + 400 < recursionLimit) (hu : A.units + 4000 < cLine) (hh : A.handled = none)
    (CI : CodeHd g 48 44) (CD : CodeHd g 55 51) (htI : TabL 44 75 4 (qInner "_int2digits") tlI) (htD : TabL 51 90 4 (qInner "_digits2int") tlD) (htab : ∀ p ∈ tlI ++ tlD, s.heap.get? p.1 = some p.2 ∧ g.get? p.1 = none) (hdis : ∀ p ∈ tlD, p.1 ∉ tlI.map (·.1))
    (hb : 0 < b) (hb2 : b < 2 ^ 62) (ha : a < 2 ^ 62) (ha' : -2 ^ 62 < a)
    (hQ : ∀ h' tk' D u v k tlI' tlD', Sub g h' → TabL 44 75 4 (qInner "_int2digits") tlI' → TabL 51 90 4 (qInner "_digits2int") tlD' → (∀ p ∈ tlI' ++ tlD', h'.get? p.1 = some p.2 ∧ g.get? p.1 = none) → (∀ p ∈ tlD', p.1 ∉ tlI'.map (·.1)) →
      h'.get? D = some ({ cls := .type "tuple", data := .seq #[.int (a.fdiv b) u, .int (a.fmod b) v] k } : Obj) → g.get? D = none → (∀ p ∈ tlI' ++ tlD', p.1 ≠ D) → Q (.ref D) { s with heap := h', toks := tk' }) :
    wpAny (model PG w) A (call (.ref 70) [.int a t1, .int b t2]) Q E s := by
  by_cases h0 : 0 ≤ a
  · obtain ⟨n, rfl⟩ : ∃ n : Nat, a = n := ⟨a.toNat, by omega⟩
    refine idmP_ok (g := g) hg hsz X T (by omega) (by omega) hh CI CD htI htD htab hdis hb hb2 (by omega) ?_
    rw [(fdiv_nat n b).1, (fdiv_nat n b).2] at hQ
    exact hQ
  obtain ⟨ed, em⟩ := fdiv_neg (a := a) hb (by omega)
  walk_at "m ent"
  case hN => exact htab
  case k8 => exact Nat.lt_of_le_of_lt (Nat.le_add_right _ _) hroom
  intro L h F' N l
  obtain ⟨m₀, F, e1, e2⟩ : ∃ m, Fr g L h m ∧ m (Str.ofString "a") = some (.int a t1) ∧ m (Str.ofString "b") = some (.int b t2) := ⟨_, F', rfl, rfl⟩
  clear F'
  try dsimp only
  walk_at "m go"
  · have hb0 : (b : Int) = 0 := by assumption
    omega
  have N0 : News g L h ((tlI ++ tlD) ++ []) := by rw [List.append_nil]; exact N
  obtain ⟨n, hn⟩ : ∃ n : Nat, -a - 1 = n := ⟨(-a - 1).toNat, by omega⟩
  rw [show (-a - 1).toNat = n by omega] at ed em
  have bn : ∀ x : Int, Builtin.bitNot x = -x - 1 := fun x => by unfold Builtin.bitNot; omega
  rw [bn, hn]
  refine idmP_ok (g := hideAll h ((tlI ++ tlD).map (·.1))) hideL_sub (Nat.le_of_eq (hideAll_size _ _)) (X.keeps (hideL_above F N0)) (T.keeps (hideL_above F N0)) (by show A.depth + 1 + 300 < recursionLimit; exact room2 hroom (by decide)) (by show A.units + 3 + 3000 < cLine; exact room2 hu (by decide)) hh (CI.keeps (hideL_above F N0)) (CD.keeps (hideL_above F N0)) htI htD (fun p hp => ⟨(N p hp).1, hideL_none p hp⟩) hdis hb hb2 (by omega) ?_
  intro h₂ tk₂ D u v k tlI₂ tlD₂ hs₂ htI₂ htD₂ ht₂ hdis₂ hD₂ hD₂' hDD
  obtain ⟨F₂, N₂, _⟩ := hideL_back (tl' := (D, _) :: (tlI₂ ++ tlD₂)) F N0 (List.forall_mem_nil _) hs₂ (fun p hp => by
    rcases List.mem_cons.mp hp with rfl | hp
    · exact ⟨hD₂, hD₂'⟩
    · exact ht₂ p hp)
  rw [List.append_nil] at N₂
  have hT : IsTup h₂ D _ := ⟨_, hD₂, rfl, _, rfl⟩
  clear F N N0
  walk_at "m go"
  rename_i D₉ h₉ F₉ N₉ l₉
  have z := N₉ _ (.head _)
  rw [bn, bn, ← ed, ← em] at z
  refine hQ _ _ _ _ _ _ tlI₂ tlD₂ F₉.keep htI₂ htD₂ (fun p hp => ?_) hdis₂ z.1 z.2.2 fun p hp => Nat.ne_of_lt (allLt_to l₉.2 p hp)
  · have y := N₉ p (.tail _ (.tail _ hp))
    exact ⟨y.1, y.2.2⟩
end
example {w : World} {A : Around} {E Q : Value → Shared → Prop} {s : Shared} (h : wpAny (model PySem.Challenge.pw_qu0043_01 w) A (call (.ref 0) []) Q E s) : wpAny (model PySem.Challenge.pw_qu0043_01 w) A (call (.ref 0) []) Q E s := by w_top off; first | (walk1; fail) | exact h
section
-- part RD
local macro_rules | `(tactic| walk_at "unpackItems ref") => `(tactic| (k_here; k_dflt (refine' unpackItemsN_ (by k_asm) (by k_asm) ⟨_, News.get (by assumption) (.head _), rfl, _, rfl⟩ (by assumption) (by exact rfl) ?_; k_whole); intro h' F' N'; (try k_sweep)))
noncomputable def mu (tm a b c : Int) : Nat := 3 * (min a c).toNat + (if c < a ∨ ¬(-a ≤ 2 * b ∧ 2 * b < a) then 2 else if tm ≠ 0 then 1 else 0)
theorem red_b {b a k : Int} (ha : 0 < a) (hk : (2 * b + a).fdiv (2 * a) = k) : -a ≤ 2 * (b - k * a) ∧ 2 * (b - k * a) < a := by
  rw [Int.fdiv_eq_ediv_of_nonneg _ (by omega)] at hk
  have h1 := Int.mul_ediv_add_emod (2 * b + a) (2 * a)
  have h2 := Int.emod_nonneg (2 * b + a) (show 2 * a ≠ 0 by omega)
  have h3 := Int.emod_lt_of_pos (2 * b + a) (show 0 < 2 * a by omega)
  rw [hk] at h1
  have e : 2 * a * k = 2 * (k * a) := by rw [Int.mul_assoc, Int.mul_comm a k]
  rw [e] at h1
  omega
theorem red_k {b a k : Int} (ha : 0 < a) (h : -a ≤ 2 * (b - k * a) ∧ 2 * (b - k * a) < a) (h1 : a ≤ 2 ^ 58) (h2 : b ≤ 2 ^ 58) (h3 : -2 ^ 58 ≤ b) : k ≤ 2 ^ 60 ∧ -2 ^ 60 ≤ k := by
  rcases Int.lt_or_le k 0 with h0 | h0
  · have h1 : 0 ≤ (-k) * (a - 1) := Int.mul_nonneg (by omega) (by omega)
    rw [Int.mul_sub, Int.neg_mul] at h1
    omega
  · have h1 : 0 ≤ k * (a - 1) := Int.mul_nonneg (by omega) (by omega)
    rw [Int.mul_sub] at h1
    omega
theorem red_c {b a c k : Int} (ha : 0 < a) (h : -a ≤ 2 * (b - k * a) ∧ 2 * (b - k * a) < a) : c - 2 * k * b + k * k * a ≤ c := by
  have e : c - 2 * k * b + k * k * a = c + k * (k * a - 2 * b) := by
    rw [Int.mul_sub, Int.mul_assoc k k a]
    have : k * (2 * b) = 2 * k * b := by rw [← Int.mul_assoc, Int.mul_comm k 2]
    omega
  rw [e]
  suffices k * (k * a - 2 * b) ≤ 0 by omega
  rcases Int.lt_trichotomy k 0 with h0 | h0 | h0
  · have h1 : 0 ≤ (-k - 1) * a := Int.mul_nonneg (by omega) (by omega)
    rw [Int.sub_mul, Int.neg_mul, Int.one_mul] at h1
    have h2 : 0 ≤ (-k) * (k * a - 2 * b) := Int.mul_nonneg (by omega) (by omega)
    rw [Int.neg_mul] at h2
    omega
  · subst h0; omega
  · have h1 : 0 ≤ (k - 1) * a := Int.mul_nonneg (by omega) (by omega)
    rw [Int.sub_mul, Int.one_mul] at h1
    have h2 : 0 ≤ k * (-(k * a - 2 * b)) := Int.mul_nonneg (by omega) (by omega)
    rw [Int.mul_neg] at h2
    omega
theorem red_i {P P' : Prop} [Decidable P] [Decidable P'] : (if P then 2 else if P' then 1 else 0 : Nat) ≤ 2 := by
  split
  · decide
  · split <;> decide
theorem red_mu {tm a b c a1 c1 k c2 b2 : Int} (ha : 0 < a) (hc : 0 < c) (hcond : tm ≠ 0 ∨ c < a) (hsw : (c < a ∧ a1 = c ∧ c1 = a) ∨ (¬ c < a ∧ a1 = a ∧ c1 = c)) (hred : tm = 0 → -a ≤ 2 * b ∧ 2 * b < a)
    (hb2 : b2 = b - k * a1) (hc2 : 0 < c2) (hk : (2 * b + a1).fdiv (2 * a1) = k) : mu k a1 b2 c2 < mu tm a b c := by
  have ha1 : 0 < a1 := by
    rcases hsw with ⟨_, h, _⟩ | ⟨_, h, _⟩
    · rw [h]; exact hc
    · rw [h]; exact ha
  have hr := red_b ha1 hk
  rw [← hb2] at hr
  have hm : min a c = a1 := by
    rcases hsw with ⟨q, h, _⟩ | ⟨q, h, _⟩
    · rw [h]; exact Int.min_eq_right (Int.le_of_lt q)
    · rw [h]; exact Int.min_eq_left (Int.not_lt.mp q)
  unfold mu
  rw [hm]
  by_cases h2 : c2 < a1
  · rw [Int.min_eq_right (Int.le_of_lt h2)]
    have h3 : c2.toNat < a1.toNat := (Int.toNat_lt_toNat ha1).mpr h2
    refine Nat.lt_of_lt_of_le ?_ (Nat.le_add_right _ _)
    refine Nat.lt_of_le_of_lt (Nat.add_le_add_left red_i _) ?_
    clear hsw hcond hred hk hb2 hr
    omega
  · rw [Int.min_eq_left (Int.not_lt.mp h2), if_neg fun q => q.elim h2 fun q => q hr]
    refine Nat.add_lt_add_left ?_ _
    by_cases h3 : c < a ∨ ¬(-a ≤ 2 * b ∧ 2 * b < a)
    · rw [if_pos h3]; split <;> decide
    · have hna : ¬ c < a := fun q => h3 (.inl q)
      have hab : -a ≤ 2 * b ∧ 2 * b < a := Decidable.not_not.mp fun q => h3 (.inr q)
      have e : a1 = a := hsw.elim (fun q => absurd q.1 hna) fun q => q.2.1
      have hk0 : k = 0 := by
        rw [← hk, e, Int.fdiv_eq_ediv_of_nonneg _ (Int.mul_nonneg (by decide) (Int.le_of_lt ha))]
        clear hsw hcond hred hk hb2 hr h3 hm
        exact Int.ediv_eq_zero_of_lt (by omega) (by omega)
      have htm : tm ≠ 0 := hcond.resolve_right hna
      rw [if_neg h3, if_neg (show ¬ k ≠ 0 from fun q => q hk0), if_pos htm]
      decide
noncomputable def RdTest (s : Shared) (h : Heap) (P : Prop) (bb : Bool) (s₂ : Shared) : Prop := ∃ tk, s₂ = { s with heap := h, toks := tk } ∧ (bb = true ↔ P)
noncomputable def RdSwap (s : Shared) (g : Heap) (L : Addr) (news : List (Addr × Obj)) (a b c : Int) (tb : Tok) (f : Flow) (s₂ : Shared) : Prop := f = .next ∧ ∃ tk h m₃ a₁ c₁ t₁ t₂, s₂ = { s with heap := h, toks := tk } ∧ Fr g L h m₃ ∧ News g L h news ∧ m₃ (Str.ofString "a") = some (.int a₁ t₁) ∧ m₃ (Str.ofString "b") = some (.int b tb) ∧ m₃ (Str.ofString "c") = some (.int c₁ t₂) ∧
      ((c < a ∧ a₁ = c ∧ c₁ = a) ∨ (¬ c < a ∧ a₁ = a ∧ c₁ = c))
noncomputable def JLR (R : Int → Int → Int → Prop) (n : Nat) (m : Str → Option Value) (news : List (Addr × Obj)) : Prop :=
  ∃ (tm a b c : Int) (tt ta tb tc : Tok) (tlI tlD : List (Addr × Obj)), m (Str.ofString "times") = some (.int tm tt) ∧ m (Str.ofString "a") = some (.int a ta) ∧ m (Str.ofString "b") = some (.int b tb) ∧ m (Str.ofString "c") = some (.int c tc) ∧
    n = mu tm a b c ∧ R a b c ∧ 0 < a ∧ 0 < c ∧ a ≤ 2 ^ 58 ∧ c ≤ 2 ^ 58 ∧ b ≤ 2 ^ 58 ∧ -2 ^ 58 ≤ b ∧ (tm = 0 → -a ≤ 2 * b ∧ 2 * b < a) ∧
    news = tlI ++ tlD ∧ TabL 44 75 4 (qInner "_int2digits") tlI ∧ TabL 51 90 4 (qInner "_digits2int") tlD ∧ ∀ p ∈ tlD, p.1 ∉ tlI.map (·.1)
set_option maxRecDepth 100000 in
set_option maxHeartbeats 8000000 in
theorem red_ok {w : World} {A : Around} {E : Value → Shared → Prop} {s : Shared} {g : Heap} {p : Program} {loose : List Str} {mean : ExcName → Option Value} {mg mb : Str → Option Value} {Q : Value → Shared → Prop}
    {a b c : Int} {t1 t2 t3 : Tok} {tlI tlD : List (Addr × Obj)} (R : Int → Int → Int → Prop)
    (hg : Sub g s.heap) (hsz : g.objs.size ≤ s.heap.objs.size) (X : (hd.heap_1 w.params).In g) (T : Top p loose mean mg mb g) (hroom : A.depth + 500 < recursionLimit) (hu : A.units + 5000 < cLine) (hh : A.handled = none)
    (CI : CodeHd g 48 44) (CD : CodeHd g 55 51) (htI : TabL 44 75 4 (qInner "_int2digits") tlI) (htD : TabL 51 90 4 (qInner "_digits2int") tlD) (htab : ∀ p ∈ tlI ++ tlD, s.heap.get? p.1 = some p.2 ∧ g.get? p.1 = none) (hdis : ∀ p ∈ tlD, p.1 ∉ tlI.map (·.1))
    (hR : R a b c) (hpos : ∀ a b c, R a b c → 0 < a ∧ 0 < c) (hsw : ∀ a b c, R a b c → R c b a) (hsh : ∀ a b c k, R a b c → R a (b - k * a) (c - 2 * k * b + k * k * a))
    (ha : a ≤ 2 ^ 58) (hc : c ≤ 2 ^ 58) (hb : b ≤ 2 ^ 58) (hb' : -2 ^ 58 ≤ b)
    (hQ : ∀ h' tk' D u v k z a' b' c' tlI' tlD', Sub g h' → TabL 44 75 4 (qInner "_int2digits") tlI' → TabL 51 90 4 (qInner "_digits2int") tlD' → (∀ p ∈ tlI' ++ tlD', h'.get? p.1 = some p.2 ∧ g.get? p.1 = none) → (∀ p ∈ tlD', p.1 ∉ tlI'.map (·.1)) →
      h'.get? D = some (listOf #[.int a' u, .int (b'.natAbs : Int) v, .int c' z] k) → g.get? D = none → (∀ p ∈ tlI' ++ tlD', p.1 ≠ D) → R a' b' c' → -a' ≤ 2 * b' → 2 * b' < a' → a' ≤ c' → Q (.ref D) { s with heap := h', toks := tk' }) :
    wpAny (model PG w) A (call (.ref 131) [.int a t1, .int b t2, .int c t3]) Q E s := by
  walk_at "m ent"
  case hN => exact htab
  case k8 => exact Nat.lt_of_le_of_lt (Nat.le_add_right _ _) hroom
  intro L h F' N l
  obtain ⟨m₀, F, e1, e2, e3⟩ : ∃ m, Fr g L h m ∧ m (Str.ofString "a") = some (.int a t1) ∧ m (Str.ofString "b") = some (.int b t2) ∧ m (Str.ofString "c") = some (.int c t3) := ⟨_, F', rfl, rfl, rfl⟩
  clear F'
  try dsimp only
  walk_at "m go"
  rename_i h₁ F₁ N₁
  refine While_inv2 (JLR R) (n₀ := mu 1 a b c) F₁ N₁ ⟨1, a, b, c, _, t1, t2, t3, tlI, tlD, rfl, (by exact e1), (by exact e2), (by exact e3), rfl, hR, (hpos _ _ _ hR).1, (hpos _ _ _ hR).2, ha, hc, hb, hb', fun q => (by cases q), rfl, htI, htD, hdis⟩ ?_ PassesOwn.never
  clear F₁ N₁ e1 e2 e3 hR ha hc hb hb' htI htD hdis htab hg hsz l
  rintro k m₂ news₂ h₇ tk₇ F₈ N₈ ⟨tm, a, b, c, tt, ta, tb, tc, tlI, tlD, d1, d2, d3, d4, rfl, hR, ha0, hc0, ha, hc, hb, hb', htm, rfl, htI, htD, hdis⟩
  refine wpAny_mono (Q := RdTest s h₇ (tm ≠ 0 ∨ c < a)) ?_ (fun bb s₂ q => ?_) (fun _ _ e => e)
  · walk_at "m go2"
    · exact ⟨_, rfl, fun _ => .inl (by assumption), fun _ => rfl⟩
    · exact ⟨_, rfl, fun _ => .inr (by assumption), fun _ => rfl⟩
    · exact ⟨_, rfl, fun q => (by cases q), fun q => q.elim (fun q => absurd (by assumption) q) (fun q => absurd q (by assumption))⟩
  obtain ⟨tk₈, rfl, hbb⟩ := q
  cases bb with
  | false =>
    have hn : ¬ (tm ≠ 0 ∨ c < a) := fun q => by cases hbb.mpr q
    simp only [Bool.false_eq_true, if_false]
    walk_at "m go2"
    rename_i D₉ h₉ F₉ N₉ l₉
    have z := N₉ _ (.head _)
    rw [show (if b < 0 then -b else b) = (b.natAbs : Int) by split <;> omega] at z
    refine hQ _ _ D₉ _ _ _ _ a b c tlI tlD F₉.keep htI htD (fun p hp => ⟨(N₉ p (.tail _ hp)).1, (N₉ p (.tail _ hp)).2.2⟩) hdis z.1 z.2.2 (fun p hp => Nat.ne_of_lt (l₉ p hp)) hR (htm (by omega)).1 (htm (by omega)).2 (by omega)
  | true =>
    have hcond := hbb.mp rfl
    simp only [if_true]
    clear hbb
    refine wpAny_execs_cons ?_
    refine wpAny_mono (Q := RdSwap s g L (tlI ++ tlD) a b c tb) ?_ (fun f s₂ q => ?_) (fun _ _ e => e)
    · walk_at "m go2"
      · rename_i F₉ N₉
        exact ⟨rfl, _, _, _, c, a, _, _, rfl, F₉, News.sub N₉ (fun p hp => .tail _ hp), rfl, (by exact d3), rfl, .inl ⟨by assumption, rfl, rfl⟩⟩
      · exact ⟨rfl, _, _, _, a, c, _, _, rfl, F₈, N₈, d2, d3, d4, .inr ⟨by assumption, rfl, rfl⟩⟩
    obtain ⟨rfl, tk₉, h₈, m₃, a₁, c₁, t₁, t₂, rfl, F₉, N₉, g1, g2, g3, hsw₁⟩ := q
    have hR₁ : R a₁ b c₁ := by
      rcases hsw₁ with ⟨_, rfl, rfl⟩ | ⟨_, rfl, rfl⟩
      · exact hsw _ _ _ hR
      · exact hR
    obtain ⟨ha₁, hc₁⟩ := hpos _ _ _ hR₁
    have ha58 : a₁ ≤ 2 ^ 58 := by omega
    have hc58 : c₁ ≤ 2 ^ 58 := by omega
    clear F₈ N₈
    try dsimp only
    walk_at "m go2"
    refine m_mulN (by omega) (by omega) ?_
    intro t₃ tk₃
    walk_at "m go2"
    refine m_mulN (by omega) (by omega) ?_
    intro t₄ tk₄
    walk_at "m go2"
    have N0 : News g L h₈ ((tlI ++ tlD) ++ []) := by rw [List.append_nil]; exact N₉
    obtain ⟨nn, hnn⟩ : ∃ n : Nat, 2 * a₁ = n := ⟨(2 * a₁).toNat, by omega⟩
    rw [hnn]
    refine idm_ok (g := hideAll h₈ ((tlI ++ tlD).map (·.1))) hideL_sub (Nat.le_of_eq (hideAll_size _ _)) (X.keeps (hideL_above F₉ N0)) (T.keeps (hideL_above F₉ N0)) (by show A.depth + 1 + 400 < recursionLimit; exact room2 hroom (by decide)) (by show A.units + 3 + 4000 < cLine; exact room2 hu (by decide)) hh (CI.keeps (hideL_above F₉ N0)) (CD.keeps (hideL_above F₉ N0)) htI htD (fun p hp => ⟨(N₉ p hp).1, hideL_none p hp⟩) hdis (by omega) (by omega) (by omega) (by omega) ?_
    rw [← hnn]
    generalize hk : (2 * b + a₁).fdiv (2 * a₁) = k
    generalize (2 * b + a₁).fmod (2 * a₁) = rest
    have hrb := red_b ha₁ hk
    obtain ⟨hk1, hk2⟩ := red_k ha₁ hrb ha58 hb hb'
    intro h₂ tk₂ D u v kk tlI₂ tlD₂ hs₂ htI₂ htD₂ ht₂ hdis₂ hD₂ hD₂' hDD
    obtain ⟨F₂, N₂, _⟩ := hideL_back (tl' := (D, _) :: (tlI₂ ++ tlD₂)) F₉ N0 (List.forall_mem_nil _) hs₂ (fun p hp => by
      rcases List.mem_cons.mp hp with rfl | hp
      · exact ⟨hD₂, hD₂'⟩
      · exact ht₂ p hp)
    rw [List.append_nil] at N₂
    have hT : IsTup h₂ D _ := ⟨_, hD₂, rfl, _, rfl⟩
    clear F₉ N₉ N0
    walk_at "m go2"
    refine m_mulN (by omega) (by omega) ?_
    intro t₅ tk₅
    walk_at "m go2"
    refine m_mulN (by omega) (by omega) ?_
    intro t₆ tk₆
    walk_at "m go2"
    refine m_mulN (by omega) (by omega) ?_
    intro t₇ tk₇
    walk_at "m go2"
    refine m_mulN (by omega) (by omega) ?_
    intro t₈ tk₈
    walk_at "m go2"
    refine m_mulN (by omega) (by omega) ?_
    intro t₉ tk₉
    walk_at "m go2"
    rename_i h₃ F₃ N₃
    have hR₂ := hsh _ _ _ k hR₁
    have hcc := red_c (c := c₁) ha₁ hrb
    have hc2 := (hpos _ _ _ hR₂).2
    have hmu := red_mu (k := k) (c2 := c₁ - 2 * k * b + k * k * a₁) ha0 hc0 hcond hsw₁ htm rfl hc2 hk
    refine ⟨_, _, _, _, _, rfl, F₃, News.sub N₃ fun p hp => .tail _ hp, hmu, k, a₁, b - k * a₁, c₁ - 2 * k * b + k * k * a₁, _, _, _, _, tlI₂, tlD₂, rfl, (by exact g1), rfl, rfl, rfl, hR₂, ha₁, hc2, ha58, Int.le_trans hcc hc58, (by omega), (by omega), fun _ => hrb, rfl, htI₂, htD₂, hdis₂⟩
end
example {w : World} {A : Around} {E Q : Value → Shared → Prop} {s : Shared} (h : wpAny (model PySem.Challenge.pw_qu0043_01 w) A (call (.ref 0) []) Q E s) : wpAny (model PySem.Challenge.pw_qu0043_01 w) A (call (.ref 0) []) Q E s := by w_top off; first | (walk1; fail) | exact h
section
-- part HL
local macro_rules | `(tactic| walk_at "call builtin:max") => `(tactic| (k_here; k_dflt (refine' m_max3 (by k_asm) (by k_asm) (by assumption) ?_; k_whole); intro h' tk t F' N'; (try k_sweep)))
local macro_rules | `(tactic| walk_at "call builtin:min") => `(tactic| (k_here; k_dflt (refine' m_min3 (by k_asm) (by k_asm) (by assumption) ?_; k_whole); intro h' tk t F' N'; (try k_sweep)))
local macro_rules | `(tactic| walk_at "binaryOp Div float float") => `(tactic| (refine m_divF (by assumption) (by first | assumption | decide +kernel) ?_; intro t tk))
local macro_rules | `(tactic| walk_at "binaryOp Mod float float") => `(tactic| (refine m_modF (by assumption) (by first | assumption | decide +kernel) ?_; intro t tk))
local macro_rules | `(tactic| walk_at "binaryOp Add float float") => `(tactic| (refine m_addF ?_; intro t tk))
local macro_rules | `(tactic| walk_at "binaryOp Sub float float") => `(tactic| (refine m_subF ?_; intro t tk))
noncomputable def fnDef (i : Nat) : List Stmt × Scope := match PG.main.body[i]? with
  | some (.FunctionDef _ _ body _ _ _ scope _ _ _) => (body, scope)
  | _ => ([], default)
noncomputable def hlsEnv (L : Addr) : Env := envOf (Str.ofString "rgb_to_hls") (fnDef 1).2 L 21 (.ref 20)
noncomputable def hsvEnv (L : Addr) : Env := envOf (Str.ofString "rgb_to_hsv") (fnDef 2).2 L 28 (.ref 27)
section
variable {r g b M m : UInt64}
theorem hueM_1 (h1 : feq r M = true) : hueM r g b M m = (Float64.divmod (Float64.div (Float64.sub (Float64.div (Float64.sub M b) (Float64.sub M m)) (Float64.div (Float64.sub M g) (Float64.sub M m))) f6) f1).2 := by
  unfold hueM; rw [if_pos h1]
theorem hueM_2 (h1 : feq r M = false) (h2 : feq g M = true) : hueM r g b M m = (Float64.divmod (Float64.div (Float64.sub (Float64.add f2 (Float64.div (Float64.sub M r) (Float64.sub M m))) (Float64.div (Float64.sub M b) (Float64.sub M m))) f6) f1).2 := by
  unfold hueM; rw [if_neg (by rw [h1]; decide), if_pos h2]
theorem hueM_3 (h1 : feq r M = false) (h2 : feq g M = false) : hueM r g b M m = (Float64.divmod (Float64.div (Float64.sub (Float64.add f4 (Float64.div (Float64.sub M g) (Float64.sub M m))) (Float64.div (Float64.sub M r) (Float64.sub M m))) f6) f1).2 := by
  unfold hueM; rw [if_neg (by rw [h1]; decide), if_neg (by rw [h2]; decide)]
theorem hueP_M (hq : feq m M = false) : hueP r g b M m = hueM r g b M m := by unfold hueP; rw [if_neg (by rw [hq]; decide)]
end
section
variable {w : World} {A : Around} {E : Value → Shared → Prop} {s : Shared} {g : Heap} {L : Addr} {m : Str → Option Value} {Q : Flow → Shared → Prop} {r gr b M mn x l z : UInt64} {t1 t2 t3 t4 t5 tx tl tz : Tok}
set_option maxRecDepth 100000 in
set_option maxHeartbeats 8000000 in
theorem hls23 (X : (hd.heap_1 w.params).In g) (hh : A.handled = none) (F : Fr g L s.heap m) (N : News g L s.heap []) (e1 : m (Str.ofString "h") = some (.float x tx)) (e2 : m (Str.ofString "l") = some (.float l tl)) (e3 : m (Str.ofString "s") = some (.float z tz))
    (hQ : ∀ h' tk' D u v y k, Sub g h' → h'.get? D = some ({ cls := .type "tuple", data := .seq #[.float (Float64.divmod (Float64.div x f6) f1).2 u, .float l v, y] k } : Obj) → g.get? D = none → Q (.ret (.ref D)) { s with heap := h', toks := tk' }) :
    wpAny (model PG w) A (execs ((fnDef 1).1.drop 11) (hlsEnv L)) Q E s := by
  show wpAny _ _ (execs (_ :: _) (envOf _ {kind := _, names := _, isGenerator := _, isCoroutine := _, more := _} _ _ _)) _ _ _
  walk_at "m go"
  rename_i F9 N9 l9
  have z := N9 _ (.head _)
  exact hQ _ _ _ _ _ _ _ F9.keep z.1 z.2.2
set_option maxRecDepth 100000 in
set_option maxHeartbeats 8000000 in
theorem hls14 (X : (hd.heap_1 w.params).In g) (hh : A.handled = none) (F : Fr g L s.heap m) (N : News g L s.heap []) (e1 : m (Str.ofString "r") = some (.float r t1)) (e2 : m (Str.ofString "g") = some (.float gr t2)) (e3 : m (Str.ofString "b") = some (.float b t3))
    (e4 : m (Str.ofString "maxc") = some (.float M t4)) (e5 : m (Str.ofString "rangec") = some (.float (Float64.sub M mn) t5)) (e6 : m (Str.ofString "l") = some (.float l tl)) (e7 : m (Str.ofString "s") = some (.float z tz)) (hz : Float64.isZero (Float64.sub M mn) = false)
    (hQ : ∀ h' tk' D u v y k, Sub g h' → h'.get? D = some ({ cls := .type "tuple", data := .seq #[.float (hueM r gr b M mn) u, .float l v, y] k } : Obj) → g.get? D = none → Q (.ret (.ref D)) { s with heap := h', toks := tk' }) :
    wpAny (model PG w) A (execs ((fnDef 1).1.drop 7) (hlsEnv L)) Q E s := by
  show wpAny _ _ (execs (_ :: _) (envOf _ {kind := _, names := _, isGenerator := _, isCoroutine := _, more := _} _ _ _)) _ _ _
  have hst : StopLn 23 := trivial
  walk_at "m goL"
  all_goals first
    | rw [hueM_1 (r := r) (g := gr) (b := b) (by assumption)] at hQ
    | rw [hueM_2 (r := r) (g := gr) (b := b) (by assumption) (by assumption)] at hQ
    | rw [hueM_3 (r := r) (g := gr) (b := b) (by assumption) (by assumption)] at hQ
  all_goals exact hls23 X hh (by assumption) (by assumption) rfl (by first | exact e6 | exact rfl) (by first | exact e7 | exact rfl) hQ
set_option maxRecDepth 100000 in
set_option maxHeartbeats 8000000 in
theorem hsv42 (X : (hd.heap_1 w.params).In g) (hh : A.handled = none) (F : Fr g L s.heap m) (N : News g L s.heap []) (e1 : m (Str.ofString "h") = some (.float x tx)) (e2 : m (Str.ofString "v") = some (.float l tl)) (e3 : m (Str.ofString "s") = some (.float z tz))
    (hQ : ∀ h' tk' D u v y k, Sub g h' → h'.get? D = some ({ cls := .type "tuple", data := .seq #[.float (Float64.divmod (Float64.div x f6) f1).2 u, y, .float l v] k } : Obj) → g.get? D = none → Q (.ret (.ref D)) { s with heap := h', toks := tk' }) :
    wpAny (model PG w) A (execs ((fnDef 2).1.drop 10) (hsvEnv L)) Q E s := by
  show wpAny _ _ (execs (_ :: _) (envOf _ {kind := _, names := _, isGenerator := _, isCoroutine := _, more := _} _ _ _)) _ _ _
  walk_at "m go"
  rename_i F9 N9 l9
  have z := N9 _ (.head _)
  exact hQ _ _ _ _ _ _ _ F9.keep z.1 z.2.2
end
set_option maxRecDepth 100000 in
set_option maxHeartbeats 8000000 in
theorem hls_ok {w : World} {A : Around} {E : Value → Shared → Prop} {s : Shared} {g : Heap} {p : Program} {loose : List Str} {mean : ExcName → Option Value} {mg mb : Str → Option Value} {Q : Value → Shared → Prop}
    {r gr b : UInt64} {t1 t2 t3 : Tok}
    (hg : Sub g s.heap) (hsz : g.objs.size ≤ s.heap.objs.size) (X : (hd.heap_1 w.params).In g) (T : Top p loose mean mg mb g) (hroom : A.depth + 5 < recursionLimit) (hu : A.units + 100 < cLine) (hh : A.handled = none)
    (hz : feq (fmin3 r gr b) (fmax3 r gr b) = false → Float64.isZero (Float64.sub (fmax3 r gr b) (fmin3 r gr b)) = false ∧ Float64.isZero (Float64.add (fmax3 r gr b) (fmin3 r gr b)) = false ∧ Float64.isZero (Float64.sub (Float64.sub f2 (fmax3 r gr b)) (fmin3 r gr b)) = false)
    (hQ : ∀ h' tk' D u v z k, Sub g h' → h'.get? D = some ({ cls := .type "tuple", data := .seq #[.float (hueP r gr b (fmax3 r gr b) (fmin3 r gr b)) u, .float (Float64.div (Float64.add (fmax3 r gr b) (fmin3 r gr b)) f2) v, z] k } : Obj) → g.get? D = none → Q (.ref D) { s with heap := h', toks := tk' }) :
    wpAny (model PG w) A (call (.ref 21) [.float r t1, .float gr t2, .float b t3]) Q E s := by
  walk_at "m ent"
  case hN => exact List.forall_mem_nil _
  case k8 => exact Nat.lt_of_le_of_lt (Nat.le_add_right _ _) hroom
  intro L h F' N l
  obtain ⟨m₀, F, e1, e2, e3⟩ : ∃ m, Fr g L h m ∧ m (Str.ofString "r") = some (.float r t1) ∧ m (Str.ofString "g") = some (.float gr t2) ∧ m (Str.ofString "b") = some (.float b t3) := ⟨_, F', rfl, rfl, rfl⟩
  clear F'
  try dsimp only
  cases hq : feq (fmin3 r gr b) (fmax3 r gr b) with
  | true =>
    have hq' : (Float64.cmp (fmin3 r gr b) (fmax3 r gr b) == some Ordering.eq) = true := hq
    walk_at "m go"
    rename_i F9 N9 l9
    have z := N9 _ (.head _)
    rw [hueP_0 hq] at hQ
    exact hQ _ _ _ _ _ _ _ F9.keep z.1 z.2.2
  | false =>
    have hq' : (Float64.cmp (fmin3 r gr b) (fmax3 r gr b) == some Ordering.eq) = false := hq
    obtain ⟨z1, z2, z3⟩ := hz hq
    rw [hueP_M hq] at hQ
    have hst : StopLn 14 := trivial
    walk_at "m goL"
    all_goals exact hls14 X hh (by assumption) (by assumption) (by exact e1) (by exact e2) (by exact e3) rfl rfl rfl rfl z1 hQ
set_option maxRecDepth 100000 in
set_option maxHeartbeats 8000000 in
theorem hsv_ok {w : World} {A : Around} {E : Value → Shared → Prop} {s : Shared} {g : Heap} {p : Program} {loose : List Str} {mean : ExcName → Option Value} {mg mb : Str → Option Value} {Q : Value → Shared → Prop}
    {r gr b : UInt64} {t1 t2 t3 : Tok}
    (hg : Sub g s.heap) (hsz : g.objs.size ≤ s.heap.objs.size) (X : (hd.heap_1 w.params).In g) (T : Top p loose mean mg mb g) (hroom : A.depth + 5 < recursionLimit) (hu : A.units + 100 < cLine) (hh : A.handled = none)
    (hz : feq (fmin3 r gr b) (fmax3 r gr b) = false → Float64.isZero (Float64.sub (fmax3 r gr b) (fmin3 r gr b)) = false ∧ Float64.isZero (fmax3 r gr b) = false ∧ True)
    (hQ : ∀ h' tk' D u v z k, Sub g h' → h'.get? D = some ({ cls := .type "tuple", data := .seq #[.float (hueP r gr b (fmax3 r gr b) (fmin3 r gr b)) u, z, .float (fmax3 r gr b) v] k } : Obj) → g.get? D = none → Q (.ref D) { s with heap := h', toks := tk' }) :
    wpAny (model PG w) A (call (.ref 28) [.float r t1, .float gr t2, .float b t3]) Q E s := by
  walk_at "m ent"
  case hN => exact List.forall_mem_nil _
  case k8 => exact Nat.lt_of_le_of_lt (Nat.le_add_right _ _) hroom
  intro L h F' N l
  obtain ⟨m₀, F, e1, e2, e3⟩ : ∃ m, Fr g L h m ∧ m (Str.ofString "r") = some (.float r t1) ∧ m (Str.ofString "g") = some (.float gr t2) ∧ m (Str.ofString "b") = some (.float b t3) := ⟨_, F', rfl, rfl, rfl⟩
  clear F'
  try dsimp only
  cases hq : feq (fmin3 r gr b) (fmax3 r gr b) with
  | true =>
    have hq' : (Float64.cmp (fmin3 r gr b) (fmax3 r gr b) == some Ordering.eq) = true := hq
    walk_at "m go"
    rename_i F9 N9 l9
    have z := N9 _ (.head _)
    rw [hueP_0 hq] at hQ
    exact hQ _ _ _ _ _ _ _ F9.keep z.1 z.2.2
  | false =>
    have hq' : (Float64.cmp (fmin3 r gr b) (fmax3 r gr b) == some Ordering.eq) = false := hq
    obtain ⟨z1, z2, z3⟩ := hz hq
    rw [hueP_M hq] at hQ
    have hst : StopLn 42 := trivial
    walk_at "m goL"
    all_goals first
      | rw [hueM_1 (r := r) (g := gr) (b := b) (by assumption)] at hQ
      | rw [hueM_2 (r := r) (g := gr) (b := b) (by assumption) (by assumption)] at hQ
      | rw [hueM_3 (r := r) (g := gr) (b := b) (by assumption) (by assumption)] at hQ
    all_goals exact hsv42 X hh (by assumption) (by assumption) rfl rfl rfl hQ
end
example {w : World} {A : Around} {E Q : Value → Shared → Prop} {s : Shared} (h : wpAny (model PySem.Challenge.pw_qu0043_01 w) A (call (.ref 0) []) Q E s) : wpAny (model PySem.Challenge.pw_qu0043_01 w) A (call (.ref 0) []) Q E s := by w_top off; first | (walk1; fail) | exact h
section
-- part WY
local macro_rules | `(tactic| walk_at "binaryOp Mult float int") => `(tactic| (refine m_mulFI (by decide) ?_; intro t tk))
local macro_rules | `(tactic| walk_at "binaryOp Add float float") => `(tactic| (refine m_addF ?_; intro t tk))
noncomputable def placeF (hue : UInt64) : UInt64 := Float64.add (Float64.mul hue (Float64.ofInt 166320)) fhalf
theorem m_place {prog : Program} {w : World} {A : Around} {E : Value → Shared → Prop} {s : Shared} {Q : Value → Shared → Prop} {x : UInt64} {t : Tok} {p : Int} (hA : A.handled = none) (hf : Float64.isFinite x = true) (hp : Flt.toInt Float64.truncOf x = p)
    (h : ∀ t tk, Q (.int p t) { s with toks := tk }) : wpAny (model prog w) A (call (.type "int") [.float x t]) Q E s := by
  subst hp
  refine Flt.call_int_float3 hA (fun q => ?_) (fun q => ?_) fun _ => h _ _
  · rcases Flt.three x with ⟨hd, c⟩ | ⟨_, hd, c⟩ | ⟨_, _, _, hd, c⟩
    · unfold Float64.isFinite at hf; rw [hd] at hf; cases hf
    · unfold Float64.isFinite at hf; rw [hd] at hf; cases hf
    · unfold Float64.isNaN at q; rw [hd] at q; cases q
  · rcases Flt.three x with ⟨hd, c⟩ | ⟨_, hd, c⟩ | ⟨_, _, _, hd, c⟩
    · unfold Float64.isFinite at hf; rw [hd] at hf; cases hf
    · unfold Float64.isFinite at hf; rw [hd] at hf; cases hf
    · unfold Float64.isInf at q; rw [hd] at q; cases q
noncomputable def wayP (p c : Int) : Int := min ((p - c) % 166320) ((c - p) % 166320)
theorem wayP_eq {p c a b : Int} {t : Tok} (h : a = (p - c) % 166320 ∧ b = (c - p) % 166320) : IntsAre [Value.int (if b < a then b else a) t] (List.map (wayP p) [c]) := by
  obtain ⟨rfl, rfl⟩ := h
  have e : (if (c - p) % 166320 < (p - c) % 166320 then (c - p) % 166320 else (p - c) % 166320) = wayP p c := by
    unfold wayP
    generalize (c - p) % 166320 = x, (p - c) % 166320 = y
    split
    · rename_i h; exact (Int.min_eq_right (Int.le_of_lt h)).symm
    · rename_i h; exact (Int.min_eq_left (Int.not_lt.mp h)).symm
  rw [e]
  exact .cons _ _ .nil
set_option maxRecDepth 100000 in
set_option maxHeartbeats 8000000 in
theorem ways_ok {w : World} {A : Around} {E : Value → Shared → Prop} {s : Shared} {g : Heap} {p : Program} {loose : List Str} {mean : ExcName → Option Value} {mg mb : Str → Option Value} {Q : Value → Shared → Prop}
    {hue : UInt64} {t1 : Tok} {pl : Int}
    (hg : Sub g s.heap) (hsz : g.objs.size ≤ s.heap.objs.size) (X : (hd.heap_1 w.params).In g) (T : Top p loose mean mg mb g) (hroom : A.depth + 5 < recursionLimit) (hu : A.units + 100 < cLine) (hh : A.handled = none)
    (hf : Float64.isFinite (placeF hue) = true) (hpl : Flt.toInt Float64.truncOf (placeF hue) = pl) (b0 : 0 ≤ pl) (b1 : pl ≤ 166320)
    (hQ : ∀ h' tk' D vs k, Sub g h' → h'.get? D = some (listOf (List.toArray vs) k) → g.get? D = none → IntsAre vs [wayP pl 0, wayP pl 55440, wayP pl 110880] → Q (.ref D) { s with heap := h', toks := tk' }) :
    wpAny (model PG w) A (call (.ref 124) [.float hue t1]) Q E s := by
  walk_at "m entC"
  case hN => exact List.forall_mem_nil _
  case k8 => exact Nat.lt_of_le_of_lt (Nat.le_add_right _ _) hroom
  intro L h tk cells F' N' Y' l1
  k_cells Y'
  simp only [List.cons_append, List.nil_append] at N'
  try dsimp only
  rename_i o1 d1
  have d1' : o1.data = .cell none := d1
  obtain ⟨m₀, F, e1⟩ : ∃ m, Fr g L h m ∧ m (Str.ofString "hue") = some (.float hue t1) := ⟨_, F', rfl⟩
  clear F' d1
  unfold placeF fhalf at hf hpl
  try dsimp only
  walk_at "m go"
  refine m_place hh hf hpl ?_
  intro t tk
  walk_at "m go"
  rename_i h₁ o1' F₁ N₁ d1''
  refine comp_evalT F₁ (clf := fun _ => [(Str.ofString "place", L + 1)]) (cs := fun _ => []) (cl := [(Str.ofString "place", L + 1)]) (by with_unfolding_all rfl) rfl (by decide) (env_none (by decide) rfl) (fun _ => List.forall_mem_nil _) ?_
  walk_at "m go"
  rename_i D₂ h₂ F₂ N₂ l₂
  refine ⟨D₂, [.int 0 _, .int 55440 _, .int 110880 _], _, fun C i ys nw => ys.length ≤ i ∧ IntsAre ys (([0, 55440, 110880].take i).map (wayP pl)) ∧ (L + 1, o1') ∈ nw, rfl, hh, F₂, N₂, ⟨0, .head _⟩, by show 3 ≤ sizeLine; rw [sizeLine_eq]; decide, fun C _ => ⟨Nat.le_refl _, .nil, .tail _ (.head _)⟩, fun C i ys nw q => q.1, ?_, ?_⟩
  · intro i v I oI C oC D m₂ ys nw h₃ tk₃ E' hi hv hJ hoC F₃ N₃ off ne hS
    obtain ⟨hy1, hy2, hm⟩ := hJ
    refine c_assign (by rfl) rfl hoC F₃ N₃ ne.1 ne.2.2 (fun p hp => (off p hp).2.1) ?_
    intro h₄ tk₄ oC' hoC' F₄ N₄
    obtain ⟨c, tc, rfl, hc⟩ : ∃ c tc, v = .int c tc ∧ [0, 55440, 110880][i]? = some c := by
      match i, hv with
      | 0, hv => cases hv; exact ⟨_, _, rfl, rfl⟩
      | 1, hv => cases hv; exact ⟨_, _, rfl, rfl⟩
      | 2, hv => cases hv; exact ⟨_, _, rfl, rfl⟩
      | _ + 3, hv => simp at hv
    have hcb : 0 ≤ c ∧ c ≤ 110880 := by
      match i, hc with
      | 0, hc => cases hc; decide
      | 1, hc => cases hc; decide
      | 2, hc => cases hc; decide
      | _ + 3, hc => simp at hc
    have hx : (fun z => if z = Str.ofString "corner" then some (Value.int c tc) else m₂ z) (Str.ofString "corner") = some (Value.int c tc) := if_pos rfl
    generalize (fun z => if z = Str.ofString "corner" then some (Value.int c tc) else m₂ z) = m₃ at hoC' hx
    refine wpAny_tests_nil ?_
    rw [if_pos rfl]
    have N₅ : News g L h₄ ((I, oI) :: (C, oC') :: (D, LCg.lst ys) :: (L + 1, o1') :: nw) := News.sub N₄ fun p hp => by
      simp only [List.mem_cons] at hp ⊢
      rcases hp with h | h | h | h | h <;> simp [h, hm]
    clear F₃ N₃ N₄ F₂ N₂ hoC
    walk_at "m go"
    all_goals
      refine min_two_N hh F₄ N₅ ?_
      intro h₅ tk₅ F₅ N₆
      refine ⟨h₅, tk₅, oC', _, nw, rfl, hoC', F₅, News.sub N₆ fun p hp => ?_, off, hS, ?_, ?_, hm⟩
      · revert p; walk_at "m me"
      · rw [List.length_append]; simp only [List.length_cons, List.length_nil]; omega
      · rw [List.take_add_one, hc, List.map_append]
        refine hy2.append ?_
        refine wayP_eq ?_
        simp only [Int.fmod_eq_emod_of_nonneg _ (show (0 : Int) ≤ 166320 by decide)]
        exact ⟨trivial, trivial⟩
  · intro C ys nw hJ D h₃ tk₃ F₃ N₃ off
    exact hQ _ _ D ys _ F₃.keep (N₃ _ (.head _)).1 (N₃ _ (.head _)).2.2 hJ.2.1
end
example {w : World} {A : Around} {E Q : Value → Shared → Prop} {s : Shared} (h : wpAny (model PySem.Challenge.pw_qu0043_01 w) A (call (.ref 0) []) Q E s) : wpAny (model PySem.Challenge.pw_qu0043_01 w) A (call (.ref 0) []) Q E s := by w_top off; first | (walk1; fail) | exact h
section
-- part LA
local macro_rules | `(tactic| walk_at "subscriptTail Name Slice ref ref") => `(tactic| (k_here; (with_unfolding_all refine' m_slice3 (by k_asm) (by k_asm) (by assumption) (by assumption) (by omega) (IsPart.int _ _) IsPart.none (IsPart.int _ _) (by decide) ?_ (by with_unfolding_all rfl) (by intro _; with_unfolding_all rfl); k_whole); intro D' h' ws' k' F' N' hw' l'))
local macro_rules | `(tactic| walk_at "call builtin:sum") => `(tactic| (k_here; (with_unfolding_all refine' m_sum1 (by rfl) (by k_asm) (by k_asm) (by assumption) ?_; k_whole); intro x' h' tk' t' F' N'))
set_option maxRecDepth 100000 in
set_option maxHeartbeats 8000000 in
theorem lawA1 {w : World} {E : Value → Shared → Prop} {s : Shared} {g : Heap} {p : Program} {loose : List Str} {mean : ExcName → Option Value} {mg mb : Str → Option Value} {Q : Flow → Shared → Prop} {e : Env} {L fa : Addr} {cd : Value}
    {m : Str → Option Value} {news : List (Addr × Obj)} {S : Addr} {vs : List Value} {ns : List Int}
    (X : (hd.heap_1 w.params).In g) (T : Top p loose mean mg mb g) (F : Fr g L s.heap m) (N : News g L s.heap news) (hS : g.IsList S vs.toArray) (hi : IntsAre vs ns) (hn : ns.length ≤ 63) (e1 : m (Str.ofString "script") = some (.ref S))
    (hK : ∀ h' tk' m' C c0 c1 c2 t0 t1 t2, Fr g L h' m' → News g L h' ((C, listOf #[.int c0 t0, .int c1 t1, .int c2 t2] 0) :: news) → (∀ p ∈ news, p.1 < C) → m' (Str.ofString "cells") = some (.ref C) → wpAny (model PG w) (callerA.deeper e) (execs (lawRest 1) (lawEnv L fa cd)) Q E { s with heap := h', toks := tk' }) :
    wpAny (model PG w) (callerA.deeper e) (execs (lawRest 0) (lawEnv L fa cd)) Q E s := by
  show wpAny _ _ (execs (_ :: _) (envOfC _ {kind := _, names := _, isGenerator := _, isCoroutine := _, more := _} _ _ _)) _ _ _
  have hst : StopLn 190 := trivial
  walk_at "m goL"
  rename_i C h1 l1 h2 F2 N2
  exact hK h2 _ _ C _ _ _ _ _ _ F2 N2 l1 rfl
set_option maxRecDepth 100000 in
set_option maxHeartbeats 8000000 in
theorem lawA2 {w : World} {E : Value → Shared → Prop} {s : Shared} {g : Heap} {p : Program} {loose : List Str} {mean : ExcName → Option Value} {mg mb : Str → Option Value} {Q : Flow → Shared → Prop} {e : Env} {L fa : Addr} {cd : Value}
    {m : Str → Option Value} {news : List (Addr × Obj)} {C : Addr} {c0 c1 c2 : Int} {t0 t1 t2 : Tok}
    (X : (hd.heap_1 w.params).In g) (T : Top p loose mean mg mb g) (F : Fr g L s.heap m) (N : News g L s.heap ((C, listOf #[.int c0 t0, .int c1 t1, .int c2 t2] 0) :: news)) (hC : ∀ p ∈ news, p.1 < C) (e1 : m (Str.ofString "cells") = some (.ref C))
    (hK : ∀ h' tk' m' D d0 d1 d2 t u0 u1 u2 u3, Fr g L h' m' → News g L h' ((D, listOf #[.int d0 u0, .int d1 u1, .int d2 u2] 0) :: (C, listOf #[.int c0 t0, .int c1 t1, .int c2 t2] 0) :: news) → C < D → m' (Str.ofString "cells") = some (.ref C) → m' (Str.ofString "drawn") = some (.ref D) → m' (Str.ofString "turn") = some (.int t u3) →
      d0 = 1 + c0.fmod 12 → d1 = 1 + c1.fmod 12 → d2 = c2.fmod 13 → t = (c0.fdiv 12).fmod 3 → wpAny (model PG w) (callerA.deeper e) (execs (lawRest 3) (lawEnv L fa cd)) Q E { s with heap := h', toks := tk' }) :
    wpAny (model PG w) (callerA.deeper e) (execs (lawRest 1) (lawEnv L fa cd)) Q E s := by
  show wpAny _ _ (execs (_ :: _) (envOfC _ {kind := _, names := _, isGenerator := _, isCoroutine := _, more := _} _ _ _)) _ _ _
  have hst : StopLn 192 := trivial
  walk_at "m goL"
  rename_i D h1 l1 h2 t3 h3 F3 N3
  exact hK _ _ _ D _ _ _ _ _ _ _ _ F3 N3 l1.1 (by exact e1) rfl rfl rfl rfl rfl rfl
end
example {w : World} {A : Around} {E Q : Value → Shared → Prop} {s : Shared} (h : wpAny (model PySem.Challenge.pw_qu0043_01 w) A (call (.ref 0) []) Q E s) : wpAny (model PySem.Challenge.pw_qu0043_01 w) A (call (.ref 0) []) Q E s := by w_top off; first | (walk1; fail) | exact h
section
-- part LA3
theorem i3 {a b c : Int} {t u v : Tok} : IntsAre [.int a t, .int b u, .int c v] [a, b, c] := .cons _ _ (.cons _ _ (.cons _ _ .nil))
local macro_rules | `(tactic| walk_at "subscriptTail Name Slice ref ref") => `(tactic| (k_here; (with_unfolding_all refine' m_slice2 (by k_asm) (by k_asm) (by exact .tail _ (by k_mem)) (by exact i3) (by exact Nat.le_of_ble_eq_true rfl) IsPart.none (IsPart.int _ _) (by exact kmk_upto i3 (by omega)) ?_ (by with_unfolding_all rfl) (by intro _; with_unfolding_all rfl); k_whole); intro D' h' ws' F' N' hw' l'))
local macro_rules | `(tactic| walk_at "subscriptTail Name Slice ref ref") => `(tactic| (k_here; (with_unfolding_all refine' m_slice2 (by k_asm) (by k_asm) (by k_mem) (by exact i3) (by exact Nat.le_of_ble_eq_true rfl) (IsPart.int _ _) IsPart.none (by exact kmk_from i3 (by omega)) ?_ (by with_unfolding_all rfl) (by intro _; with_unfolding_all rfl); k_whole); intro D' h' ws' F' N' hw' l'))
theorem turn3 {d0 d1 d2 t : Int} (h0 : 1 ≤ d0 ∧ d0 ≤ 12) (h1 : 1 ≤ d1 ∧ d1 ≤ 12) (h2 : 0 ≤ d2 ∧ d2 ≤ 12) (ht : 0 ≤ t ∧ t ≤ 2) : ∃ r g b : Int, List.drop t.toNat [d0, d1, d2] ++ List.take t.toNat [d0, d1, d2] = [r, g, b] ∧ 0 ≤ r ∧ r ≤ 12 ∧ 0 ≤ g ∧ g ≤ 12 ∧ 0 ≤ b ∧ b ≤ 12 ∧ ((0 < r ∧ 0 < g) ∨ (0 < r ∧ 0 < b) ∨ (0 < g ∧ 0 < b)) := by
  have : t = 0 ∨ t = 1 ∨ t = 2 := by omega
  rcases this with rfl | rfl | rfl
  · exact ⟨d0, d1, d2, rfl, by omega, by omega, by omega, by omega, by omega, by omega, by omega⟩
  · exact ⟨d1, d2, d0, rfl, by omega, by omega, by omega, by omega, by omega, by omega, by omega⟩
  · exact ⟨d2, d0, d1, rfl, by omega, by omega, by omega, by omega, by omega, by omega, by omega⟩
set_option maxRecDepth 100000 in
set_option maxHeartbeats 8000000 in
theorem lawA3 {w : World} {E : Value → Shared → Prop} {s : Shared} {g : Heap} {p : Program} {loose : List Str} {mean : ExcName → Option Value} {mg mb : Str → Option Value} {Q : Flow → Shared → Prop} {e : Env} {L fa : Addr} {cd : Value}
    {m : Str → Option Value} {news : List (Addr × Obj)} {C D : Addr} {d0 d1 d2 t : Int} {u0 u1 u2 u3 : Tok} {oC : Obj}
    (X : (hd.heap_1 w.params).In g) (T : Top p loose mean mg mb g) (F : Fr g L s.heap m) (N : News g L s.heap ((D, listOf #[.int d0 u0, .int d1 u1, .int d2 u2] 0) :: (C, oC) :: news)) (hC : ∀ p ∈ news, p.1 < C) (hD : C < D) (e1 : m (Str.ofString "cells") = some (.ref C)) (e2 : m (Str.ofString "drawn") = some (.ref D)) (e3 : m (Str.ofString "turn") = some (.int t u3))
    (h0 : 1 ≤ d0 ∧ d0 ≤ 12) (h1 : 1 ≤ d1 ∧ d1 ≤ 12) (h2 : 0 ≤ d2 ∧ d2 ≤ 12) (ht : 0 ≤ t ∧ t ≤ 2)
    (hK : ∀ h' tk' m' P r gr b v0 v1 v2, Fr g L h' m' → News g L h' ((P, listOf #[.int r v0, .int gr v1, .int b v2] 0) :: (C, oC) :: news) → C < P → m' (Str.ofString "cells") = some (.ref C) → m' (Str.ofString "parts") = some (.ref P) →
      0 ≤ r ∧ r ≤ 12 ∧ 0 ≤ gr ∧ gr ≤ 12 ∧ 0 ≤ b ∧ b ≤ 12 ∧ ((0 < r ∧ 0 < gr) ∨ (0 < r ∧ 0 < b) ∨ (0 < gr ∧ 0 < b)) → wpAny (model PG w) (callerA.deeper e) (execs (lawRest 4) (lawEnv L fa cd)) Q E { s with heap := h', toks := tk' }) :
    wpAny (model PG w) (callerA.deeper e) (execs (lawRest 3) (lawEnv L fa cd)) Q E s := by
  show wpAny _ _ (execs (_ :: _) (envOfC _ {kind := _, names := _, isGenerator := _, isCoroutine := _, more := _} _ _ _)) _ _ _
  have hst : StopLn 193 := trivial
  walk_at "m goL"
  rename_i hws l1 h3 F3 N3
  obtain ⟨r, gr, b, hrgb, hb⟩ := turn3 h0 h1 h2 ht
  rw [hrgb] at hws
  obtain ⟨v0, v1, v2, rfl⟩ := int3 hws
  exact hK _ _ _ _ r gr b v0 v1 v2 F3 (News.sub N3 fun p hp => by
    revert p; walk_at "m me") l1.2.2.2.1 (by exact e1) rfl hb
end
example {w : World} {A : Around} {E Q : Value → Shared → Prop} {s : Shared} (h : wpAny (model PySem.Challenge.pw_qu0043_01 w) A (call (.ref 0) []) Q E s) : wpAny (model PySem.Challenge.pw_qu0043_01 w) A (call (.ref 0) []) Q E s := by w_top off; first | (walk1; fail) | exact h
section
-- part LB
theorem met_K {w : World} {A : Around} {E : Value → Shared → Prop} {s : Shared} {h₀ : Heap} {L : Addr} {m : Str → Option Value} {news : List (Addr × Obj)} {p : Program} {loose : List Str} {mean : ExcName → Option Value} {mg mb : Str → Option Value} {Q : Value → Shared → Prop}
    {P : Addr} {r gr b : Int} {t0 t1 t2 tc : Tok} {k : Nat} (F : Fr h₀ L s.heap m) (N : News h₀ L s.heap news) (X : (hd.heap_1 w.params).In h₀) (T : Top p loose mean mg mb h₀) (hroom : A.depth + 10 < recursionLimit) (hu : A.units + 100 < cLine) (hh : A.handled = none)
    (hP : (P, listOf #[.int r t0, .int gr t1, .int b t2] k) ∈ news) (hgood : ∀ j, j < 8 → goodS (iterM r gr b j (initM r gr b)).1 = true)
    (h : ∀ h' tk M ms n tups, Fr h₀ L h' m → News h₀ L h' ((M, listOf (List.toArray ms) n) :: (tups ++ news)) → (∀ p ∈ tups, p.1 ≠ M) → (∀ q ∈ (M, listOf (List.toArray ms) n) :: tups, ∀ p ∈ news, p.1 ≠ q.1) → All2 (TupN tups) ms (metP r gr b) → Q (.ref M) { s with heap := h', toks := tk }) :
    wpAny (model PG w) A (call (.ref 119) [.ref P, .int 8 tc]) Q E s := by
  refine met_ok (g := s.heap) (fun _ _ e => e) (Nat.le_refl _) (X.keeps F.keep) (T.keeps F.keep) hroom hu hh ⟨_, (N _ hP).1, rfl, k, rfl⟩ hgood ?_
  intro h' tk M ms n tups hs hn hM ha
  obtain ⟨F', N', hd⟩ := news_new F N hs hn
  exact h h' tk M ms n tups F' N' hM hd ha
set_option maxRecDepth 100000 in
set_option maxHeartbeats 8000000 in
theorem lawB {w : World} {E : Value → Shared → Prop} {s : Shared} {g : Heap} {p : Program} {loose : List Str} {mean : ExcName → Option Value} {mg mb : Str → Option Value} {Q : Flow → Shared → Prop} {e : Env} {L fa : Addr} {cd : Value}
    {m : Str → Option Value} {tabs : List (Addr × Obj)} {P C : Addr} {r gr b : Int} {v0 v1 v2 : Tok} {oC om ow oz : Obj}
    (X : (hd.heap_1 w.params).In g) (T : Top p loose mean mg mb g) (F : Fr g L s.heap m) (N : News g L s.heap ((P, listOf #[.int r v0, .int gr v1, .int b v2] 0) :: (C, oC) :: (L + 1 + 1 + 1, oz) :: (L + 1 + 1, ow) :: (L + 1, om) :: tabs)) (hP : C < P) (hC : L + 1 + 1 + 1 < C) (ht : ∀ p ∈ tabs, p.1 < L) (dm : om.data = .cell none)
    (e1 : m (Str.ofString "cells") = some (.ref C)) (e2 : m (Str.ofString "parts") = some (.ref P)) (hgood : ∀ j, j < 8 → goodS (iterM r gr b j (initM r gr b)).1 = true)
    (hK : ∀ h' tk' M ms n tups om', Fr g L h' m → News g L h' ((M, listOf (List.toArray ms) n) :: (tups ++ (P, listOf #[.int r v0, .int gr v1, .int b v2] 0) :: (C, oC) :: (L + 1 + 1 + 1, oz) :: (L + 1 + 1, ow) :: (L + 1, om') :: tabs)) → om'.data = .cell (some (.ref M)) → (∀ p ∈ tups, p.1 ≠ M) →
      (∀ q ∈ (M, listOf (List.toArray ms) n) :: tups, q.1 ≠ P ∧ q.1 ≠ C ∧ q.1 ≠ L + 1 + 1 + 1 ∧ q.1 ≠ L + 1 + 1 ∧ q.1 ≠ L + 1) → All2 (TupN tups) ms (metP r gr b) → (∀ q ∈ (M, listOf (List.toArray ms) n) :: tups, ∀ p ∈ tabs, p.1 ≠ q.1) → wpAny (model PG w) (callerA.deeper e) (execs (lawRest 5) (lawEnv L fa cd)) Q E { s with heap := h', toks := tk' }) :
    wpAny (model PG w) (callerA.deeper e) (execs (lawRest 4) (lawEnv L fa cd)) Q E s := by
  show wpAny _ _ (execs (_ :: _) (envOfC _ {kind := _, names := _, isGenerator := _, isCoroutine := _, more := _} _ _ _)) _ _ _
  have hst : StopLn 194 := trivial
  walk_at "m goL"
  refine met_K F N X T room' units' rfl (.head _) hgood ?_
  intro h1 tk1 M ms n tups F1 N1 hM hd ha
  have hP1 : L + 1 + 1 + 1 < P := Nat.lt_trans hC hP
  have s1 : L + 1 < L + 1 + 1 := Nat.lt_succ_self _
  have s2 : L + 1 + 1 < L + 1 + 1 + 1 := Nat.lt_succ_self _
  have s3 : L < L + 1 := Nat.lt_succ_self _
  refine m_stcell (v0 := none) (c := L + 1) (oc := om) (rest := (M, listOf (List.toArray ms) n) :: (tups ++ (P, listOf #[.int r v0, .int gr v1, .int b v2] 0) :: (C, oC) :: (L + 1 + 1 + 1, oz) :: (L + 1 + 1, ow) :: tabs)) F1 (News.sub N1 fun p hp => ?_) rfl rfl rfl dm (fun p hp => ?_) ?_
  · revert p; walk_at "m me"
  · simp only [List.mem_cons, List.mem_append] at hp
    rcases hp with rfl | h | rfl | rfl | rfl | rfl | h
    · exact Ne.symm (hd _ (.head _) (L + 1, om) (by simp))
    · exact Ne.symm (hd _ (.tail _ h) (L + 1, om) (by simp))
    · exact Nat.ne_of_gt (Nat.lt_trans s1 (Nat.lt_trans s2 hP1))
    · exact Nat.ne_of_gt (Nat.lt_trans s1 (Nat.lt_trans s2 hC))
    · exact Nat.ne_of_gt (Nat.lt_trans s1 s2)
    · exact Nat.ne_of_gt s1
    · exact Nat.ne_of_lt (Nat.lt_trans (ht p h) s3)
  intro h2 om' F2 N2 dm'
  exact hK _ _ M ms n tups om' F2 (News.sub N2 fun p hp => by
    revert p; walk_at "m me") dm' hM (fun q hq => ⟨Ne.symm (hd q hq (P, _) (.head _)), Ne.symm (hd q hq (C, oC) (.tail _ (.head _))), Ne.symm (hd q hq (_, oz) (.tail _ (.tail _ (.head _)))), Ne.symm (hd q hq (_, ow) (.tail _ (.tail _ (.tail _ (.head _))))), Ne.symm (hd q hq (_, om) (.tail _ (.tail _ (.tail _ (.tail _ (.head _))))))⟩) ha (fun q hq p hp => hd q hq p (.tail _ (.tail _ (.tail _ (.tail _ (.tail _ hp))))))
end
example {w : World} {A : Around} {E Q : Value → Shared → Prop} {s : Shared} (h : wpAny (model PySem.Challenge.pw_qu0043_01 w) A (call (.ref 0) []) Q E s) : wpAny (model PySem.Challenge.pw_qu0043_01 w) A (call (.ref 0) []) Q E s := by w_top off; first | (walk1; fail) | exact h
section
-- part LC
local macro_rules | `(tactic| walk_at "binaryOp Div int int") => `(tactic| (refine m_div16 (by with_unfolding_all rfl) (by with_unfolding_all assumption) (by with_unfolding_all assumption) ?_; intro t tk))
noncomputable def HUE (r g b : Int) : UInt64 := hueP (F16 r.toNat) (F16 g.toNat) (F16 b.toNat) (fmax3 (F16 r.toNat) (F16 g.toNat) (F16 b.toNat)) (fmin3 (F16 r.toNat) (F16 g.toNat) (F16 b.toNat))
noncomputable def VAL (r g b : Int) : UInt64 := fmax3 (F16 r.toNat) (F16 g.toNat) (F16 b.toNat)
noncomputable def LOW (r g b : Int) : UInt64 := fmin3 (F16 r.toNat) (F16 g.toNat) (F16 b.toNat)
noncomputable def LIT (r g b : Int) : UInt64 := Float64.div (Float64.add (VAL r g b) (LOW r g b)) f2
noncomputable def HZ (r g b : Int) : Prop := feq (LOW r g b) (VAL r g b) = false → Float64.isZero (Float64.sub (VAL r g b) (LOW r g b)) = false ∧ Float64.isZero (Float64.add (VAL r g b) (LOW r g b)) = false ∧ Float64.isZero (Float64.sub (Float64.sub f2 (VAL r g b)) (LOW r g b)) = false ∧ Float64.isZero (VAL r g b) = false
noncomputable abbrev tupO (xs : List Value) (k : Nat) : Obj := { cls := .type "tuple", data := .seq xs.toArray k }
section
variable {w : World} {A : Around} {E : Value → Shared → Prop} {s : Shared} {h₀ : Heap} {L : Addr} {m : Str → Option Value} {news : List (Addr × Obj)} {p : Program} {loose : List Str} {mean : ExcName → Option Value} {mg mb : Str → Option Value} {Q : Value → Shared → Prop}
    {r gr b : Int} {t1 t2 t3 : Tok}
theorem hls_K (F : Fr h₀ L s.heap m) (N : News h₀ L s.heap news) (X : (hd.heap_1 w.params).In h₀) (T : Top p loose mean mg mb h₀) (hroom : A.depth + 5 < recursionLimit) (hu : A.units + 100 < cLine) (hh : A.handled = none) (hz : HZ r gr b)
    (h : ∀ h' tk D u v z k, Fr h₀ L h' m → News h₀ L h' ((D, tupO [.float (HUE r gr b) u, .float (LIT r gr b) v, z] k) :: news) → Q (.ref D) { s with heap := h', toks := tk }) :
    wpAny (model PG w) A (call (.ref 21) [.float (F16 r.toNat) t1, .float (F16 gr.toNat) t2, .float (F16 b.toNat) t3]) Q E s := by
  refine hls_ok (g := s.heap) (fun _ _ e => e) (Nat.le_refl _) (X.keeps F.keep) (T.keeps F.keep) hroom hu hh (fun q => ⟨(hz q).1, (hz q).2.1, (hz q).2.2.1⟩) ?_
  intro h' tk D u v z k hs hD hD0
  obtain ⟨F', N', _⟩ := news_new (new := [(D, tupO [.float (HUE r gr b) u, .float (LIT r gr b) v, z] k)]) F N hs (fun p hp => by rw [List.mem_singleton.mp hp]; exact ⟨hD, hD0⟩)
  exact h h' tk D u v z k F' N'
theorem hsv_K (F : Fr h₀ L s.heap m) (N : News h₀ L s.heap news) (X : (hd.heap_1 w.params).In h₀) (T : Top p loose mean mg mb h₀) (hroom : A.depth + 5 < recursionLimit) (hu : A.units + 100 < cLine) (hh : A.handled = none) (hz : HZ r gr b)
    (h : ∀ h' tk D u v z k, Fr h₀ L h' m → News h₀ L h' ((D, tupO [.float (HUE r gr b) u, z, .float (VAL r gr b) v] k) :: news) → Q (.ref D) { s with heap := h', toks := tk }) :
    wpAny (model PG w) A (call (.ref 28) [.float (F16 r.toNat) t1, .float (F16 gr.toNat) t2, .float (F16 b.toNat) t3]) Q E s := by
  refine hsv_ok (g := s.heap) (fun _ _ e => e) (Nat.le_refl _) (X.keeps F.keep) (T.keeps F.keep) hroom hu hh (fun q => ⟨(hz q).1, (hz q).2.2.2, trivial⟩) ?_
  intro h' tk D u v z k hs hD hD0
  obtain ⟨F', N', _⟩ := news_new (new := [(D, tupO [.float (HUE r gr b) u, z, .float (VAL r gr b) v] k)]) F N hs (fun p hp => by rw [List.mem_singleton.mp hp]; exact ⟨hD, hD0⟩)
  exact h h' tk D u v z k F' N'
end
set_option maxRecDepth 100000 in
set_option maxHeartbeats 8000000 in
theorem lawC {w : World} {E : Value → Shared → Prop} {s : Shared} {g : Heap} {p : Program} {loose : List Str} {mean : ExcName → Option Value} {mg mb : Str → Option Value} {Q : Flow → Shared → Prop} {e : Env} {L fa : Addr} {cd : Value}
    {m : Str → Option Value} {news : List (Addr × Obj)} {P : Addr} {r gr b : Int} {v0 v1 v2 : Tok}
    (X : (hd.heap_1 w.params).In g) (T : Top p loose mean mg mb g) (F : Fr g L s.heap m) (N : News g L s.heap ((P, listOf #[.int r v0, .int gr v1, .int b v2] 0) :: news)) (e2 : m (Str.ofString "parts") = some (.ref P))
    (hb : 0 ≤ r ∧ r ≤ 12 ∧ 0 ≤ gr ∧ gr ≤ 12 ∧ 0 ≤ b ∧ b ≤ 12) (hz : HZ r gr b)
    (hK : ∀ h' tk' m' u1 u2 u3 u4, Fr g L h' m' → News g L h' ((P, listOf #[.int r v0, .int gr v1, .int b v2] 0) :: news) → m' (Str.ofString "parts") = some (.ref P) → m' (Str.ofString "cells") = m (Str.ofString "cells") →
      m' (Str.ofString "hue") = some (.float (HUE r gr b) u1) → m' (Str.ofString "light") = some (.float (LIT r gr b) u2) → m' (Str.ofString "again") = some (.float (HUE r gr b) u3) → m' (Str.ofString "value") = some (.float (VAL r gr b) u4) →
      wpAny (model PG w) (callerA.deeper e) (execs (lawRest 7) (lawEnv L fa cd)) Q E { s with heap := h', toks := tk' }) :
    wpAny (model PG w) (callerA.deeper e) (execs (lawRest 5) (lawEnv L fa cd)) Q E s := by
  show wpAny _ _ (execs (_ :: _) (envOfC _ {kind := _, names := _, isGenerator := _, isCoroutine := _, more := _} _ _ _)) _ _ _
  have hst : StopLn 196 := trivial
  obtain ⟨r0, r1, g0, g1, b0, b1⟩ := hb
  have r2 : r < 1000 := by omega
  have g2 : gr < 1000 := by omega
  have b2 : b < 1000 := by omega
  walk_at "m goL"
  refine hls_K (r := r) (gr := gr) (b := b) (by k_asm) (by k_asm) X T room' units' rfl hz ?_
  intro h1 tk1 D1 q1 q2 z1 k1 F1 N1
  walk_at "m goL"
  refine hsv_K (r := r) (gr := gr) (b := b) (by k_asm) (by k_asm) X T room' units' rfl hz ?_
  intro h2 tk2 D2 q3 q4 z2 k2 F2 N2
  walk_at "m goL"
  rename_i h5 F5 N5
  exact hK _ _ _ q1 q2 q3 q4 F5 (News.sub N5 fun p hp => .tail _ (.tail _ hp)) (by exact e2) rfl rfl rfl rfl rfl
end
example {w : World} {A : Around} {E Q : Value → Shared → Prop} {s : Shared} (h : wpAny (model PySem.Challenge.pw_qu0043_01 w) A (call (.ref 0) []) Q E s) : wpAny (model PySem.Challenge.pw_qu0043_01 w) A (call (.ref 0) []) Q E s := by w_top off; first | (walk1; fail) | exact h
section
-- part LD
local macro_rules | `(tactic| walk_at "binaryOp Mult int float") => `(tactic| (refine m_mulIF (by decide) ?_; intro t tk))
theorem ways_K {w : World} {A : Around} {E : Value → Shared → Prop} {s : Shared} {h₀ : Heap} {L : Addr} {m : Str → Option Value} {news : List (Addr × Obj)} {p : Program} {loose : List Str} {mean : ExcName → Option Value} {mg mb : Str → Option Value} {Q : Value → Shared → Prop}
    {hue : UInt64} {t1 : Tok} {pl : Int} (F : Fr h₀ L s.heap m) (N : News h₀ L s.heap news) (X : (hd.heap_1 w.params).In h₀) (T : Top p loose mean mg mb h₀) (hroom : A.depth + 5 < recursionLimit) (hu : A.units + 100 < cLine) (hh : A.handled = none)
    (hf : Float64.isFinite (placeF hue) = true) (hpl : Flt.toInt Float64.truncOf (placeF hue) = pl) (b0 : 0 ≤ pl) (b1 : pl ≤ 166320)
    (h : ∀ h' tk W vs k, Fr h₀ L h' m → News h₀ L h' ((W, listOf (List.toArray vs) k) :: news) → (∀ p ∈ news, p.1 ≠ W) → IntsAre vs [wayP pl 0, wayP pl 55440, wayP pl 110880] → Q (.ref W) { s with heap := h', toks := tk }) :
    wpAny (model PG w) A (call (.ref 124) [.float hue t1]) Q E s := by
  refine ways_ok (g := s.heap) (fun _ _ e => e) (Nat.le_refl _) (X.keeps F.keep) (T.keeps F.keep) hroom hu hh hf hpl b0 b1 ?_
  intro h' tk W vs k hs hD hD0 hv
  obtain ⟨F', N', hn⟩ := news_new (new := [(W, listOf (List.toArray vs) k)]) F N hs (fun p hp => by rw [List.mem_singleton.mp hp]; exact ⟨hD, hD0⟩)
  exact h h' tk W vs k F' N' (fun p hp => hn _ (.head _) p hp) hv
noncomputable def low3 (a b c : Int) : Int := min a (min b c)
theorem low3_le {a b c M : Int} (h : M = a ∨ M = b ∨ M = c) (k : M ≤ a ∧ M ≤ b ∧ M ≤ c) : M = low3 a b c := by
  refine Int.le_antisymm (Int.le_min.mpr ⟨k.1, Int.le_min.mpr k.2⟩) ?_
  rcases h with e | e | e
  · rw [e]; exact Int.min_le_left ..
  · rw [e]; exact Int.le_trans (Int.min_le_right ..) (Int.min_le_left ..)
  · rw [e]; exact Int.le_trans (Int.min_le_right ..) (Int.min_le_right ..)
theorem low3_of {a b c M : Int} (h1 : M ∈ [a, b, c]) (h2 : ∀ x, x ∈ [a, b, c] → M ≤ x) : M = low3 a b c := by
  simp only [List.mem_cons, List.not_mem_nil, or_false] at h1
  exact low3_le h1 ⟨h2 a (.head _), h2 b (.tail _ (.head _)), h2 c (.tail _ (.tail _ (.head _)))⟩
set_option maxRecDepth 100000 in
set_option maxHeartbeats 8000000 in
theorem lawD {w : World} {E : Value → Shared → Prop} {s : Shared} {g : Heap} {p : Program} {loose : List Str} {mean : ExcName → Option Value} {mg mb : Str → Option Value} {Q : Flow → Shared → Prop} {e : Env} {L fa : Addr} {cd : Value}
    {m : Str → Option Value} {news : List (Addr × Obj)} {ow : Obj} {hue lit val : UInt64} {u1 u2 u4 : Tok} {pl M S : Int}
    (X : (hd.heap_1 w.params).In g) (T : Top p loose mean mg mb g) (F : Fr g L s.heap m) (N : News g L s.heap ((L + 1 + 1, ow) :: news)) (hn : ∀ p ∈ news, p.1 ≠ L + 1 + 1) (dw : ow.data = .cell none)
    (e1 : m (Str.ofString "hue") = some (.float hue u1)) (e2 : m (Str.ofString "light") = some (.float lit u2)) (e4 : m (Str.ofString "value") = some (.float val u4))
    (hf : Float64.isFinite (placeF hue) = true) (hpl : Flt.toInt Float64.truncOf (placeF hue) = pl) (b0 : 0 ≤ pl) (b1 : pl ≤ 166320)
    (hfM : Float64.isFinite (Float64.mul (Float64.ofInt 16) val) = true) (hM : Flt.toInt Float64.truncOf (Float64.mul (Float64.ofInt 16) val) = M)
    (hfS : Float64.isFinite (Float64.mul (Float64.ofInt 32) lit) = true) (hS : Flt.toInt Float64.truncOf (Float64.mul (Float64.ofInt 32) lit) = S) (bM : 0 ≤ M ∧ M ≤ 12) (bS : 0 ≤ S ∧ S ≤ 24)
    (hK : ∀ h' tk' m' W vs k ow' t1 t2 t3, Fr g L h' m' → News g L h' ((W, listOf (List.toArray vs) k) :: (L + 1 + 1, ow') :: news) → (∀ p ∈ news, p.1 ≠ W) → W ≠ L + 1 + 1 → IntsAre vs [wayP pl 0, wayP pl 55440, wayP pl 110880] → ow'.data = .cell (some (.ref W)) →
      m' (Str.ofString "most") = some (.int M t1) → m' (Str.ofString "least") = some (.int (S - M) t2) → m' (Str.ofString "middle") = some (.int (S - M + (low3 (wayP pl 0) (wayP pl 55440) (wayP pl 110880) * (M - (S - M))).fdiv 27720) t3) →
      (∀ x ∈ [Str.ofString "parts", Str.ofString "cells", Str.ofString "hue", Str.ofString "again"], m' x = m x) →
      wpAny (model PG w) (callerA.deeper e) (execs (lawRest 11) (lawEnv L fa cd)) Q E { s with heap := h', toks := tk' }) :
    wpAny (model PG w) (callerA.deeper e) (execs (lawRest 7) (lawEnv L fa cd)) Q E s := by
  show wpAny _ _ (execs (_ :: _) (envOfC _ {kind := _, names := _, isGenerator := _, isCoroutine := _, more := _} _ _ _)) _ _ _
  have hst : StopLn 200 := trivial
  walk_at "m goL"
  refine ways_K F N X T room' units' rfl hf hpl b0 b1 ?_
  intro h1 tk1 W vs k F1 N1 hW hvs
  refine m_stcell (v0 := none) (c := L + 1 + 1) (oc := ow) (rest := (W, listOf (List.toArray vs) k) :: news) F1 (News.swap N1) rfl rfl rfl dw (all_ne (Ne.symm (hW _ (.head _))) hn) ?_
  intro h2 ow' F2 N2 dw'
  try dsimp only
  walk_at "m goL"
  rename_i Mi ti ki ai bi h7 F7 N7
  have hMi : Mi = low3 (wayP pl 0) (wayP pl 55440) (wayP pl 110880) := low3_le (by assumption) (by assumption)
  rw [hM, hS, hMi] at F7
  exact hK _ _ _ W vs k ow' _ _ _ F7 (News.swap N7) (fun p hp => hW p (.tail _ hp)) (Ne.symm (hW _ (.head _))) hvs dw' rfl rfl rfl (by
    intro x hx
    simp only [List.mem_cons, List.not_mem_nil, or_false] at hx
    rcases hx with rfl | rfl | rfl | rfl <;> rfl)
end
example {w : World} {A : Around} {E Q : Value → Shared → Prop} {s : Shared} (h : wpAny (model PySem.Challenge.pw_qu0043_01 w) A (call (.ref 0) []) Q E s) : wpAny (model PySem.Challenge.pw_qu0043_01 w) A (call (.ref 0) []) Q E s := by w_top off; first | (walk1; fail) | exact h
section
-- part LE
theorem pick_take (vs : List Value) (n : Nat) : slicePick vs.toArray none (some (n : Int)) none = (vs.take n).toArray := by
  have e : sliceBounds none (some (n : Int)) none vs.toArray.size = (((0 : Nat) : Int), ((min n vs.toArray.size : Nat) : Int), 1) := by
    simp only [sliceBounds, Option.getD_none, show (1 : Int) > 0 by decide, if_true, if_neg (show ¬ ((n : Int) < 0) by omega)]
    congr 1
    congr 1
    omega
  rw [kmk_pick_nat _ e]
  show ((vs.drop 0).take (min n vs.toArray.size - 0)).toArray = _
  rw [List.drop_zero, Nat.sub_zero, List.size_toArray, kmk_take_min]
section
variable {prog : Program} {w : World} {A : Around} {E : Value → Shared → Prop} {s : Shared} {h₀ : Heap} {L : Addr} {m : Str → Option Value} {news : List (Addr × Obj)}
theorem m_sliceUp {value slice : PySem.Expr} {l : Addr} {vs : List Value} {n k : Nat} {t : Tok} {Q : Value → Shared → Prop}
    (F : Fr h₀ L s.heap m) (N : News h₀ L s.heap news) (hm : (l, listOf vs.toArray n) ∈ news) (hn : vs.length < 1000)
    (h : ∀ D h', Fr h₀ L h' m → News h₀ L h' ((D, listOf (List.toArray (vs.take k)) 0) :: news) → (∀ p ∈ news, p.1 < D) → Q (.ref D) { s with heap := h' })
    (hs : subscripted slice false (.ref l) (.ref s.heap.objs.size) = operate [.ref s.heap.objs.size, .ref l] (getItem (.ref l) (.ref s.heap.objs.size))) (ht : ∀ r, letTemporaryGo value (.ref l) r = pure ()) :
    wpAny (model prog w) A (subscriptTail value slice (.ref l) (.ref s.heap.objs.size)) Q E { s with heap := s.heap.push { cls := .type "slice", data := .fields #[.none, .int (k : Int) t, .none] } } := by
  refine kmk_slice F N (News.isList (n := n) N hm) IsPart.none (IsPart.int _ _) (fun D h' F' N' l' => h D h' F' ?_ l') hs ht (by rw [List.size_toArray, sizeLine_eq]; omega)
  rw [pick_take] at N'
  exact N'
end
theorem get_take {α : Type} {l : List α} {k i : Nat} {v : α} (h : (l.take k)[i]? = some v) : l[i]? = some v ∧ i < k := by
  rw [List.getElem?_take] at h
  split at h
  · exact ⟨h, by assumption⟩
  · cases h
local macro_rules | `(tactic| walk_at "subscriptTail Name Slice ref ref") => `(tactic| (k_here; (with_unfolding_all refine' m_sliceUp (k := 3) (by k_asm) (by k_asm) (by k_mem) (by assumption) ?_ (by with_unfolding_all rfl) (by intro _; with_unfolding_all rfl); k_whole); intro D' h' F' N' l'))
set_option maxRecDepth 100000 in
set_option maxHeartbeats 8000000 in
theorem lawE {w : World} {E : Value → Shared → Prop} {s : Shared} {g : Heap} {p : Program} {loose : List Str} {mean : ExcName → Option Value} {mg mb : Str → Option Value} {Q : Flow → Shared → Prop} {e : Env} {L fa : Addr} {cd : Value}
    {m : Str → Option Value} {nw tups : List (Addr × Obj)} {om : Obj} {M : Addr} {ms : List Value} {n : Nat} {es : List (List Int)} {hue : UInt64} {u1 u3 t1 t2 t3 : Tok} {mo le mi : Int}
    (X : (hd.heap_1 w.params).In g) (T : Top p loose mean mg mb g) (F : Fr g L s.heap m) (N : News g L s.heap ((M, listOf (List.toArray ms) n) :: (L + 1, om) :: nw)) (hsub : ∀ p ∈ tups, p ∈ nw) (dm : om.data = .cell (some (.ref M)))
    (ha : All2 (TupN tups) ms es) (h8 : es.length = 8) (h5 : ∀ e ∈ es, ∃ s x y u v, e = [s, x, y, u, v]) (h3 : (es.take 3).map (fun e => e.headD 0) = [le + mi, le + mo, mi + mo])
    (e1 : m (Str.ofString "hue") = some (.float hue u1)) (e3 : m (Str.ofString "again") = some (.float hue u3)) (hq : feq hue hue = true)
    (e4 : m (Str.ofString "most") = some (.int mo t1)) (e5 : m (Str.ofString "least") = some (.int le t2)) (e6 : m (Str.ofString "middle") = some (.int mi t3))
    (hK : ∀ h' tk', Fr g L h' m → News g L h' ((M, listOf (List.toArray ms) n) :: (L + 1, om) :: nw) → wpAny (model PG w) (callerA.deeper e) (execs (lawRest 12) (lawEnv L fa cd)) Q E { s with heap := h', toks := tk' }) :
    wpAny (model PG w) (callerA.deeper e) (execs (lawRest 11) (lawEnv L fa cd)) Q E s := by
  show wpAny _ _ (execs (_ :: _) (envOfC _ {kind := _, names := _, isGenerator := _, isCoroutine := _, more := _} _ _ _)) _ _ _
  have hst : StopLn 202 := trivial
  have hq' : (Float64.cmp hue hue == some Ordering.eq) = true := hq
  have hms : ms.length < 1000 := by rw [ha.length, h8]; decide
  walk_at "m goL"
  · exfalso
    have hne : (Float64.cmp hue hue != some Ordering.eq) = true := by assumption
    unfold bne at hne
    rw [hq'] at hne
    cases hne
  refine comp_eval (by k_asm) (clf := fun _ => []) (cs := fun _ => []) (cl := []) (by with_unfolding_all rfl) rfl (by decide) (env_none (by decide) rfl) (fun _ => List.forall_mem_nil _) ?_
  walk_at "m goL"
  rename_i D1 h1 F1 N1 l1
  refine ⟨D1, ms.take 3, _, fun C i ys nw' => IntsAre ys ((es.take i).map (fun e => e.headD 0)) ∧ i ≤ 3 ∧ (∀ p ∈ tups, p ∈ nw') ∧ (M, listOf (List.toArray ms) n) ∈ nw' ∧ (L + 1, om) ∈ nw' ∧ (∀ p ∈ nw, p ∈ nw'), rfl, rfl, F1, N1, ⟨0, .head _⟩, by rw [List.length_take, sizeLine_eq]; omega, fun C _ => ⟨.nil, by omega, fun p hp => .tail _ (.tail _ (.tail _ (hsub p hp))), .tail _ (.head _), .tail _ (.tail _ (.head _)), fun p hp => .tail _ (.tail _ (.tail _ hp))⟩, fun C i ys nw q => ?_, ?_, ?_⟩
  · rw [q.1.length, List.length_map, List.length_take]; omega
  · intro i v I oI C oC D m₂ ys nw' h₃ tk₃ E' hi hv hJ hoC F₃ N₃ off ne hS
    obtain ⟨j1, j2, j3, j4, j5, j6⟩ := hJ
    refine c_assign (by rfl) rfl hoC F₃ N₃ ne.1 ne.2.2 (fun p hp => (off p hp).2.1) ?_
    intro h₄ tk₄ oC' hoC' F₄ N₄
    obtain ⟨hv', hi3⟩ := get_take hv
    obtain ⟨xs, hxs, a, its, k, rfl, hat, hits⟩ := ha.get hv'
    obtain ⟨sz, x, y, u, w', rfl⟩ := h5 xs (List.mem_of_getElem? hxs)
    obtain ⟨q1, q2, q3, q4, q5, rfl⟩ := int5 hits
    have hx : (fun z => if z = Str.ofString "one" then some (Value.ref a) else m₂ z) (Str.ofString "one") = some (Value.ref a) := if_pos rfl
    generalize (fun z => if z = Str.ofString "one" then some (Value.ref a) else m₂ z) = m₃ at hoC' hx
    refine wpAny_tests_nil ?_
    rw [if_pos rfl]
    have N₅ := News.put4 N₄ (j3 _ hat)
    clear F₃ N₃ N₄ hoC F1 N1 l1
    walk_at "m goL"
    refine ⟨h₄, _, oC', _, nw', rfl, hoC', F₄, News.drop4 N₅, off, hS, ?_, by omega, j3, j4, j5, j6⟩
    rw [List.take_add_one, hxs, List.map_append]
    exact j1.append (.cons _ _ .nil)
  · intro C ys nw' hJ D h₃ tk₃ F₃ N₃ off
    obtain ⟨j1, j2, j3, j4, j5, j6⟩ := hJ
    rw [show (ms.take 3).length = 3 by rw [List.length_take, ha.length, h8]; rfl, h3] at j1
    have N₄ : News g L h₃ ((D, listOf ys.toArray ys.length) :: (M, listOf (List.toArray ms) n) :: (L + 1, om) :: nw) := News.sub N₃ fun p hp => by
      simp only [List.mem_cons] at hp ⊢
      rcases hp with h | h | h | h
      · exact .inl h
      · rw [h]; exact .inr j4
      · rw [h]; exact .inr j5
      · exact .inr (j6 p h)
    obtain ⟨r1, r2, r3, rfl⟩ := int3 j1
    clear F1 N1 l1 N₃
    walk_at "m goL"
    rename_i h9 F9 N9 l9
    exact hK _ _ F9 (News.sub N9 fun p hp => .tail _ (.tail _ hp))
end
example {w : World} {A : Around} {E Q : Value → Shared → Prop} {s : Shared} (h : wpAny (model PySem.Challenge.pw_qu0043_01 w) A (call (.ref 0) []) Q E s) : wpAny (model PySem.Challenge.pw_qu0043_01 w) A (call (.ref 0) []) Q E s := by w_top off; first | (walk1; fail) | exact h
section
-- part LN
/-- the ledger bears the list of these bools -/
noncomputable def BoolL (nw : List (Addr × Obj)) (v : Value) (bs : List Bool) : Prop := ∃ a k, v = .ref a ∧ (a, listOf (bs.map Value.bool).toArray k) ∈ nw
theorem BoolL.mono {t u : List (Addr × Obj)} (h : ∀ p ∈ t, p ∈ u) {v : Value} {bs : List Bool} : BoolL t v bs → BoolL u v bs
  | ⟨a, k, e, hm⟩ => ⟨a, k, e, h _ hm⟩
theorem ints_at {vs : List Value} {ns : List Int} (h : IntsAre vs ns) : ∀ {i : Nat} {v : Value}, vs[i]? = some v → ∃ x, ns[i]? = some x ∧ ∃ t, v = .int x t := by
  induction h with
  | nil => intro i v h; cases h
  | cons a t _ ih =>
    intro i v h
    cases i with
    | zero => cases h; exact ⟨a, rfl, t, rfl⟩
    | succ i => exact ih (i := i) h
noncomputable def nearRow (xs : List Int) (x : Int) : List Bool := xs.map fun y => decide (x < y)
noncomputable def nearScope2 : Scope := { kind := .function, names := [(Str.ofString ".0", .local), (Str.ofString "two", .local), (Str.ofString "one", .free)], isGenerator := false, isCoroutine := false, more := [] }
noncomputable def nearScope1 (nm : Str) : Scope := { kind := .function, names := [(Str.ofString ".0", .local), (Str.ofString "one", .cell), (nm, .free)], isGenerator := false, isCoroutine := false, more := [] }
noncomputable def nearEnv (nm : Str) (cW : Addr) (env : Env) (C : Addr) : Env := compEnvC (nearScope1 nm) ((Str.ofString "one", C + 1) :: [(nm, cW)]) C env
noncomputable def nearJ (cW : Addr) (oW : Obj) (W : Addr) (ws : List Value) (kW : Nat) (xs : List Int) (keep : List (Addr × Obj)) (C : Addr) (i : Nat) (ys : List Value) (nw : List (Addr × Obj)) : Prop :=
  ∃ oc vc rest, nw = (C + 1, oc) :: rest ∧ oc.data = .cell vc ∧ (∀ p ∈ rest, p.1 ≠ C + 1) ∧ All2 (BoolL rest) ys ((xs.take i).map (nearRow xs)) ∧ (cW, oW) ∈ rest ∧ (W, listOf ws.toArray kW) ∈ rest ∧ ∀ p ∈ keep, p ∈ rest
set_option maxRecDepth 100000 in
set_option maxHeartbeats 8000000 in
theorem near_turn {w : World} {A : Around} {h₀ : Heap} {L cW W : Addr} {m : Str → Option Value} {env : Env} {nm : Str} {oW : Obj} {ws : List Value} {kW : Nat} {xs : List Int} {keep : List (Addr × Obj)} {p1 p2 p3 p4 p5 p6 px : Pos} {s₂ : Shared}
    (hh : A.handled = none) (hxs : IntsAre ws xs) (hlen : ws.length < 100) (dW : oW.data = .cell (some (.ref W))) (hdbg : (nm == ("__debug__" : Str)) = false)
    (hA : ∀ C, (nearEnv nm cW env C).kindOf nm = some .cell) (hB : ∀ C : Addr, ((Str.ofString "one", C + 1) :: [(nm, cW)]).lookup nm = some cW) :
    CTurn PG w A h₀ L m (.ListComp (.Compare (.Name (Str.ofString "one") p1) [.Lt] [.Name (Str.ofString "two") p2] p3) [⟨.Name (Str.ofString "two") p4, .Name nm p5, [], 0⟩] nearScope2 p6) [] (Str.ofString "one") px (fun C => nearEnv nm cW env C)
      ws.length (fun i v => ws[i]? = some v) (ELst W ws) (nearJ cW oW W ws kW xs keep) s₂ := by
  intro i v I oI C oC D m₂ ys nw h tk E' hi hv hJ hoC F N off ne hS
  obtain ⟨oc, vc, rest, rfl, hd, hr, ha, hcW, hW, hk⟩ := hJ
  obtain ⟨x, hxx, tx, rfl⟩ : ∃ x, xs[i]? = some x ∧ ∃ t, v = .int x t := by
    exact ints_at hxs hv
  have hC1 : C ≠ C + 1 := Nat.ne_of_lt (Nat.lt_succ_self _)
  refine c_assignC (c := C + 1) rfl (by rfl) (by rfl) F N hd (off _ (.head _)).1.symm hC1 (off _ (.head _)).2.2.symm hr ?_
  intro h₁ oc₁ hd₁ F₁ N₁
  refine wpAny_tests_nil ?_
  rw [if_pos rfl]
  refine comp_eval F₁ (env := nearEnv nm cW env C) (clf := fun _ => [(Str.ofString "one", C + 1)]) (cs := fun _ => []) (cl := [(Str.ofString "one", C + 1)]) (by with_unfolding_all rfl) rfl (by decide) (env_none (by decide) rfl) (fun _ => List.forall_mem_nil _) ?_
  refine lcf_cell N₁ (hB C) (.tail _ (.tail _ (.tail _ (.tail _ hcW)))) dW ?_ rfl (hA C) hdbg
  refine ⟨W, ws, _, fun C2 i2 ys2 nw2 => ys2 = (nearRow (xs.take i2) x).map Value.bool ∧ i2 ≤ xs.length ∧ (C + 1, oc₁) ∈ nw2 ∧ (∀ p ∈ rest, p ∈ nw2) ∧ (I, oI) ∈ nw2 ∧ (C, oC) ∈ nw2 ∧ (D, LCg.lst ys) ∈ nw2, rfl, hh, F₁, N₁, ⟨kW, .tail _ (.tail _ (.tail _ (.tail _ hW)))⟩, by rw [sizeLine_eq]; omega, ?_, ?_, ?_, ?_⟩
  · intro C2 _
    exact ⟨rfl, Nat.zero_le _, .tail _ (.tail _ (.tail _ (.head _))), fun p hp => .tail _ (.tail _ (.tail _ (.tail _ hp))), .head _, .tail _ (.head _), .tail _ (.tail _ (.head _))⟩
  · intro C2 i2 ys2 nw2 q
    rw [q.1, List.length_map, nearRow, List.length_map, List.length_take]; omega
  · intro i2 v2 I2 oI2 C2 oC2 D2 m3 ys2 nw2 h2 tk2 E2 hi2 hv2 hJ2 hoC2 F2 N2 off2 ne2 hS2
    obtain ⟨j1, j2, j3, j4, j5, j6, j7⟩ := hJ2
    obtain ⟨y, hyy, ty, rfl⟩ := ints_at hxs hv2
    refine c_assign (by rfl) rfl hoC2 F2 N2 ne2.1 ne2.2.2 (fun p hp => (off2 p hp).2.1) ?_
    intro h3 tk3 oC3 hoC3 F3 N3
    refine wpAny_tests_nil ?_
    rw [if_pos rfl]
    have hx : (fun z => if z = Str.ofString "two" then some (Value.int y ty) else m3 z) (Str.ofString "two") = some (Value.int y ty) := if_pos rfl
    generalize (fun z => if z = Str.ofString "two" then some (Value.int y ty) else m3 z) = m4 at hoC3 hx
    have N4 := News.put4 N3 j3
    clear F2 N2 N3 F N F₁ N₁ hoC2
    refine wpAny_Compare1 ?_
    refine lcf_cell (c := C + 1) N4 (by rfl) (.tail _ (.tail _ (.tail _ (.head _)))) hd₁ ?_ rfl (by rfl)
    refine LCgL.ld_own N4 (.tail _ (.head _)) hoC3 hx ?_ rfl (by rfl)
    refine lt_int ?_
    refine ⟨h3, _, oC3, _, nw2, rfl, hoC3, F3, News.drop4 N4, off2, hS2, ?_, ?_, j3, j4, j5, j6, j7⟩
    · rw [j1, List.take_add_one, hyy]
      simp only [nearRow, List.map_append]
      rfl
    · have := hi2; rw [hxs.length] at this; exact this
  · intro C2 ys2 nw2 hJ2 D2 h2 tk2 F2 N2 off2
    obtain ⟨j1, j2, j3, j4, j5, j6, j7⟩ := hJ2
    rw [hxs.length, List.take_length] at j1
    subst j1
    have o1 := off2 _ j3
    have oI2 := off2 _ j5
    have oC2 := off2 _ j6
    have oD2 := off2 _ j7
    refine ⟨h2, _, oC, m₂, (C + 1, oc₁) :: (D2, LCg.lst ((nearRow xs x).map Value.bool)) :: rest, rfl, hoC, F2, News.sub N2 fun p hp => ?_, fun p hp => ?_, ⟨kW, .tail _ (.tail _ hW)⟩, oc₁, _, _, rfl, hd₁, fun p hp => ?_, ?_, .tail _ hcW, .tail _ hW, fun p hp => .tail _ (hk p hp)⟩
    · simp only [List.mem_cons] at hp ⊢
      rcases hp with h | h | h | h | h | h
      · rw [h]; exact .inr j5
      · rw [h]; exact .inr j6
      · rw [h]; exact .inr j7
      · rw [h]; exact .inr j3
      · exact .inl h
      · exact .inr (j4 p h)
    · rcases List.mem_cons.mp hp with rfl | hp
      · exact off (C + 1, oc) (.head _)
      · rcases List.mem_cons.mp hp with rfl | hp
        · exact ⟨Ne.symm oI2, Ne.symm oC2, Ne.symm oD2⟩
        · exact off _ (.tail _ hp)
    · rcases List.mem_cons.mp hp with rfl | hp
      · exact Ne.symm o1
      · exact hr p hp
    · rw [List.take_add_one, hxx, List.map_append]
      exact (ha.mono fun v bs => BoolL.mono fun p hp => .tail _ hp).append (.cons ⟨D2, _, rfl, .head _⟩ .nil)
end
example {w : World} {A : Around} {E Q : Value → Shared → Prop} {s : Shared} (h : wpAny (model PySem.Challenge.pw_qu0043_01 w) A (call (.ref 0) []) Q E s) : wpAny (model PySem.Challenge.pw_qu0043_01 w) A (call (.ref 0) []) Q E s := by w_top off; first | (walk1; fail) | exact h
section
-- part LG
local macro_rules | `(tactic| walk_at "m call") => `(tactic| walk_at "m sz")
set_option maxRecDepth 100000 in
set_option maxHeartbeats 8000000 in
theorem lawF {w : World} {E : Value → Shared → Prop} {s : Shared} {g : Heap} {p : Program} {loose : List Str} {mean : ExcName → Option Value} {mg mb : Str → Option Value} {Q : Flow → Shared → Prop} {e : Env} {L fa : Addr} {cd : Value}
    {m : Str → Option Value} {nw : List (Addr × Obj)} {oz : Obj} {P : Addr} {r gr b : Int} {v0 v1 v2 : Tok}
    (X : (hd.heap_1 w.params).In g) (T : Top p loose mean mg mb g) (F : Fr g L s.heap m) (N : News g L s.heap ((P, listOf #[.int r v0, .int gr v1, .int b v2] 0) :: (L + 1 + 1 + 1, oz) :: nw)) (hn : ∀ p ∈ nw, p.1 ≠ L + 1 + 1 + 1) (hP : P ≠ L + 1 + 1 + 1) (dz : oz.data = .cell none) (e1 : m (Str.ofString "parts") = some (.ref P))
    (hK : ∀ h' tk' Z q1 q2 q3 oz', Fr g L h' m → News g L h' ((Z, listOf #[.int (size r gr b 0 1) q1, .int (size r gr b 1 0) q2, .int (size r gr b 1 1) q3] 0) :: (L + 1 + 1 + 1, oz') :: (P, listOf #[.int r v0, .int gr v1, .int b v2] 0) :: nw) → oz'.data = .cell (some (.ref Z)) → Z ≠ L + 1 + 1 + 1 → (∀ p ∈ nw, p.1 ≠ Z) → Z ≠ P →
      wpAny (model PG w) (callerA.deeper e) (execs (lawRest 13) (lawEnv L fa cd)) Q E { s with heap := h', toks := tk' }) :
    wpAny (model PG w) (callerA.deeper e) (execs (lawRest 12) (lawEnv L fa cd)) Q E s := by
  show wpAny _ _ (execs (_ :: _) (envOfC _ {kind := _, names := _, isGenerator := _, isCoroutine := _, more := _} _ _ _)) _ _ _
  have hst : StopLn 203 := trivial
  walk_at "m goL"
  rename_i Z h5 l5 h6 oz' F6 N6 d6
  exact hK _ _ Z _ _ _ oz' F6 (News.sub N6 fun p hp => by
    simp only [List.mem_cons] at hp ⊢
    rcases hp with h | h | h | h
    · exact .inl h
    · exact .inr (.inr (.inl h))
    · exact .inr (.inl h)
    · exact .inr (.inr (.inr h))) d6 (Nat.ne_of_gt l5.2.1) (fun p hp => Nat.ne_of_lt (allLt_to l5.2.2 p hp)) (Nat.ne_of_gt l5.1)
theorem bool3 {nw : List (Addr × Obj)} {ys : List Value} {a b c : List Bool} (h : All2 (BoolL nw) ys [a, b, c]) : ∃ x y z k1 k2 k3, ys = [.ref x, .ref y, .ref z] ∧ (x, listOf (a.map Value.bool).toArray k1) ∈ nw ∧ (y, listOf (b.map Value.bool).toArray k2) ∈ nw ∧ (z, listOf (c.map Value.bool).toArray k3) ∈ nw := by
  obtain ⟨_, w1, e1, ⟨x, k1, rfl, m1⟩, h1⟩ := all2_cons h
  obtain ⟨_, w2, e2, ⟨y, k2, rfl, m2⟩, h2⟩ := all2_cons h1
  obtain ⟨_, w3, e3, ⟨z, k3, rfl, m3⟩, h3⟩ := all2_cons h2
  exact ⟨x, y, z, k1, k2, k3, e1.trans (congrArg _ (e2.trans (congrArg _ (e3.trans (congrArg _ (all2_nil h3)))))), m1, m2, m3⟩
set_option maxRecDepth 100000 in
set_option maxHeartbeats 8000000 in
theorem lawG {w : World} {E : Value → Shared → Prop} {s : Shared} {g : Heap} {p : Program} {loose : List Str} {mean : ExcName → Option Value} {mg mb : Str → Option Value} {Q : Flow → Shared → Prop} {e : Env} {L fa : Addr} {cd : Value}
    {m : Str → Option Value} {nw : List (Addr × Obj)} {ow : Obj} {W : Addr} {ws : List Value} {kW : Nat} {a b c : Int}
    (X : (hd.heap_1 w.params).In g) (T : Top p loose mean mg mb g) (F : Fr g L s.heap m) (N : News g L s.heap ((W, listOf (List.toArray ws) kW) :: (L + 1 + 1, ow) :: nw)) (dw : ow.data = .cell (some (.ref W))) (hws : IntsAre ws [a, b, c])
    (hK : ∀ h' tk' D a1 a2 a3 k k1 k2 k3, Fr g L h' (fun z => if z = Str.ofString "nearer" then some (.ref D) else m z) → News g L h' ((D, listOf #[.ref a1, .ref a2, .ref a3] k) :: (a1, listOf ((nearRow [a, b, c] a).map Value.bool).toArray k1) :: (a2, listOf ((nearRow [a, b, c] b).map Value.bool).toArray k2) :: (a3, listOf ((nearRow [a, b, c] c).map Value.bool).toArray k3) :: nw) →
      wpAny (model PG w) (callerA.deeper e) (execs (lawRest 14) (lawEnv L fa cd)) Q E { s with heap := h', toks := tk' }) :
    wpAny (model PG w) (callerA.deeper e) (execs (lawRest 13) (lawEnv L fa cd)) Q E s := by
  show wpAny _ _ (execs (_ :: _) (envOfC _ {kind := _, names := _, isGenerator := _, isCoroutine := _, more := _} _ _ _)) _ _ _
  have hst : StopLn 204 := trivial
  have hwl : ws.length = 3 := by rw [hws.length]; rfl
  walk_at "m goL"
  refine comp_assign F (clf := fun C => (Str.ofString "one", C + 1) :: [(Str.ofString "ways", L + 1 + 1)]) (cs := fun C => [(C + 1, cellNone)]) (cl := [(Str.ofString "ways", L + 1 + 1)]) (by with_unfolding_all rfl) (by with_unfolding_all rfl) rfl (by decide) (by rfl) (by rfl) (env_one rfl) (fun C p hp => by rw [List.mem_singleton.mp hp]; exact Nat.lt_succ_self _) ?_
  walk_at "m goL"
  refine ⟨W, ws, _, nearJ (L + 1 + 1) ow W ws kW [a, b, c] nw, rfl, rfl, F, N, ⟨kW, .head _⟩, by rw [hwl, sizeLine_eq]; omega, fun C hC => ⟨cellNone, none, _, rfl, rfl, fun p hp => Nat.ne_of_lt (Nat.lt_succ_of_lt (hC p hp)), .nil, .tail _ (.head _), .head _, fun p hp => .tail _ (.tail _ hp)⟩, ?_, ?_, ?_⟩
  · rintro C i ys nw' ⟨oc, vc, rest, rfl, hd, hr, ha, _⟩
    rw [ha.length, List.length_map, List.length_take]; omega
  · exact near_turn (nm := Str.ofString "ways") rfl hws (by omega) dw (by decide) (fun _ => by rfl) (fun _ => by rfl)
  · rintro C ys nw' ⟨oc, vc, rest, rfl, hd, hr, ha, hcW, hW, hk⟩ D h₃ tk₃ F₃ N₃ off
    rw [hwl] at ha
    obtain ⟨x, y, z, k1, k2, k3, rfl, m1, m2, m3⟩ := bool3 ha
    exact hK _ _ D x y z _ k1 k2 k3 F₃ (News.sub N₃ fun p hp => by
      simp only [List.mem_cons] at hp ⊢
      rcases hp with h | h | h | h | h
      · exact .inl h
      · rw [h]; exact .inr (.inr m1)
      · rw [h]; exact .inr (.inr m2)
      · rw [h]; exact .inr (.inr m3)
      · exact .inr (.inr (hk p h)))
end
example {w : World} {A : Around} {E Q : Value → Shared → Prop} {s : Shared} (h : wpAny (model PySem.Challenge.pw_qu0043_01 w) A (call (.ref 0) []) Q E s) : wpAny (model PySem.Challenge.pw_qu0043_01 w) A (call (.ref 0) []) Q E s := by w_top off; first | (walk1; fail) | exact h
section
-- part LH
set_option maxRecDepth 100000 in
set_option maxHeartbeats 8000000 in
theorem lawH {w : World} {E : Value → Shared → Prop} {s : Shared} {g : Heap} {p : Program} {loose : List Str} {mean : ExcName → Option Value} {mg mb : Str → Option Value} {Q : Flow → Shared → Prop} {e : Env} {L fa : Addr} {cd : Value}
    {m : Str → Option Value} {nw : List (Addr × Obj)} {oz : Obj} {Z D a1 a2 a3 : Addr} {k k1 k2 k3 kZ : Nat} {zs : List Value} {z1 z2 z3 mo le : Int} {t1 t2 : Tok} {r1 r2 r3 : List Bool}
    (X : (hd.heap_1 w.params).In g) (T : Top p loose mean mg mb g) (F : Fr g L s.heap m)
    (N : News g L s.heap ((D, listOf #[.ref a1, .ref a2, .ref a3] k) :: (a1, listOf (r1.map Value.bool).toArray k1) :: (a2, listOf (r2.map Value.bool).toArray k2) :: (a3, listOf (r3.map Value.bool).toArray k3) :: (Z, listOf zs.toArray kZ) :: (L + 1 + 1 + 1, oz) :: nw))
    (hzs : IntsAre zs [z1, z2, z3]) (dz : oz.data = .cell (some (.ref Z))) (e1 : m (Str.ofString "nearer") = some (.ref D)) (e2 : m (Str.ofString "most") = some (.int mo t1)) (e3 : m (Str.ofString "least") = some (.int le t2))
    (hr : r1.length = 3 ∧ r2.length = 3 ∧ r3.length = 3) (hnear : mo ≠ le → nearRow [z1, z2, z3] z1 = r1 ∧ nearRow [z1, z2, z3] z2 = r2 ∧ nearRow [z1, z2, z3] z3 = r3)
    (hK : ∀ h' tk', Fr g L h' m → News g L h' nw → wpAny (model PG w) (callerA.deeper e) (execs (lawRest 15) (lawEnv L fa cd)) Q E { s with heap := h', toks := tk' }) :
    wpAny (model PG w) (callerA.deeper e) (execs (lawRest 14) (lawEnv L fa cd)) Q E s := by
  show wpAny _ _ (execs (_ :: _) (envOfC _ {kind := _, names := _, isGenerator := _, isCoroutine := _, more := _} _ _ _)) _ _ _
  have hst : StopLn 206 := trivial
  have hwl : zs.length = 3 := by rw [hzs.length]; rfl
  walk_at "m goL"
  · have hne : mo ≠ le := by assumption
    obtain ⟨q1, q2, q3⟩ := hnear hne
    refine comp_eval F (clf := fun C => (Str.ofString "one", C + 1) :: [(Str.ofString "sizes", L + 1 + 1 + 1)]) (cs := fun C => [(C + 1, cellNone)]) (cl := [(Str.ofString "sizes", L + 1 + 1 + 1)]) (by with_unfolding_all rfl) rfl (by decide) (env_one rfl) (fun C p hp => by rw [List.mem_singleton.mp hp]; exact Nat.lt_succ_self _) ?_
    walk_at "m goL"
    refine ⟨Z, zs, _, nearJ (L + 1 + 1 + 1) oz Z zs kZ [z1, z2, z3] ((D, listOf #[.ref a1, .ref a2, .ref a3] k) :: (a1, listOf (r1.map Value.bool).toArray k1) :: (a2, listOf (r2.map Value.bool).toArray k2) :: (a3, listOf (r3.map Value.bool).toArray k3) :: nw), rfl, rfl, F, N, ⟨kZ, .tail _ (.tail _ (.tail _ (.tail _ (.head _))))⟩, by rw [hwl, sizeLine_eq]; omega,
      fun C hC => ⟨cellNone, none, _, rfl, rfl, fun p hp => Nat.ne_of_lt (Nat.lt_succ_of_lt (hC p hp)), .nil, .tail _ (.tail _ (.tail _ (.tail _ (.tail _ (.head _))))), .tail _ (.tail _ (.tail _ (.tail _ (.head _)))), fun p hp => ?_⟩, ?_, ?_, ?_⟩
    · simp only [List.mem_cons] at hp ⊢
      rcases hp with h | h | h | h | h <;> simp [h]
    · rintro C i ys nw' ⟨oc, vc, rest, rfl, hd, hr, ha, _⟩
      rw [ha.length, List.length_map, List.length_take]; omega
    · exact near_turn (nm := Str.ofString "sizes") rfl hzs (by omega) dz (by decide) (fun _ => by rfl) (fun _ => by rfl)
    · rintro C ys nw' ⟨oc, vc, rest, rfl, hd, hr', ha, hcW, hW, hk⟩ D₂ h₃ tk₃ F₃ N₃ off
      rw [hwl] at ha
      have ha' : All2 (BoolL rest) ys [r1, r2, r3] := by
        rw [← q1, ← q2, ← q3]; exact ha
      obtain ⟨x, y, z, j1, j2, j3, rfl, m1, m2, m3⟩ := bool3 ha'
      have N₄ : News g L h₃ ((D₂, listOf #[.ref x, .ref y, .ref z] 3) :: (x, listOf (r1.map Value.bool).toArray j1) :: (y, listOf (r2.map Value.bool).toArray j2) :: (z, listOf (r3.map Value.bool).toArray j3) :: (D, listOf #[.ref a1, .ref a2, .ref a3] k) :: (a1, listOf (r1.map Value.bool).toArray k1) :: (a2, listOf (r2.map Value.bool).toArray k2) :: (a3, listOf (r3.map Value.bool).toArray k3) :: nw) := News.sub N₃ fun p hp => by
        simp only [List.mem_cons] at hp ⊢
        rcases hp with h | h | h | h | h
        · exact .inl h
        · rw [h]; exact .inr (.inr m1)
        · rw [h]; exact .inr (.inr m2)
        · rw [h]; exact .inr (.inr m3)
        · exact .inr (.inr (hk p (by simp only [List.mem_cons]; exact h)))
      clear N N₃ F
      obtain ⟨hl1, hl2, hl3⟩ := hr
      obtain ⟨b1, b2, b3, rfl⟩ := len3 hl1
      obtain ⟨b4, b5, b6, rfl⟩ := len3 hl2
      obtain ⟨b7, b8, b9, rfl⟩ := len3 hl3
      simp only [List.map_cons, List.map_nil] at N₄
      walk_at "m goL"
      exact hK _ _ F₃ (News.sub N₄ fun p hp => .tail _ (.tail _ (.tail _ (.tail _ (.tail _ (.tail _ (.tail _ (.tail _ hp))))))))
  · exact hK _ _ F (News.sub N fun p hp => .tail _ (.tail _ (.tail _ (.tail _ (.tail _ (.tail _ hp))))))
end
example {w : World} {A : Around} {E Q : Value → Shared → Prop} {s : Shared} (h : wpAny (model PySem.Challenge.pw_qu0043_01 w) A (call (.ref 0) []) Q E s) : wpAny (model PySem.Challenge.pw_qu0043_01 w) A (call (.ref 0) []) Q E s := by w_top off; first | (walk1; fail) | exact h
section
-- part LI0
local macro_rules | `(tactic| walk_at "m call") => `(tactic| walk_at "m sz")
noncomputable def boxOk (x y : Int) : Bool := (decide (0 < y) || decide (x = 1)) && (decide (0 < x % 2 + y % 2) && decide (0 < x % 3 + y % 3))
theorem boxOk_t {x y : Int} (h : (0 < y ∨ x = 1) ∧ 0 < x % 2 + y % 2 ∧ 0 < x % 3 + y % 3) : true = boxOk x y := by
  unfold boxOk
  simp only [h.2.1, h.2.2, decide_true, Bool.and_true]
  rcases h.1 with h | h <;> simp [h]
theorem boxOk_f {x y : Int} (h : ¬ ((0 < y ∨ x = 1) ∧ 0 < x % 2 + y % 2 ∧ 0 < x % 3 + y % 3)) : false = boxOk x y := by
  symm
  rw [Bool.eq_false_iff]
  intro q
  unfold boxOk at q
  simp only [Bool.and_eq_true, Bool.or_eq_true, decide_eq_true_eq] at q
  exact h q
noncomputable def boxIf : List Stmt := match lawRest 16 with
  | .For _ _ [.For _ _ b _ _] _ _ :: _ => b
  | _ => []
noncomputable def BoxR (s : Shared) (g : Heap) (L : Addr) (m : Str → Option Value) (B : Addr) (vs : List Value) (post : List (Addr × Obj)) (r gr b x y : Int) (f : Flow) (s₂ : Shared) : Prop :=
  f = .next ∧ ((boxOk x y = false ∧ ∃ tk, s₂ = { s with toks := tk }) ∨ (boxOk x y = true ∧ ∃ h' tk D t u v n', s₂ = { s with heap := h', toks := tk } ∧ Fr g L h' m ∧ News g L h' ((B, listOf (List.toArray (vs ++ [.ref D])) n') :: (D, ({ cls := .type "tuple", data := .seq #[.int (size r gr b x y) t, .int x u, .int y v] } : Obj)) :: post) ∧ B < D ∧ ∀ p ∈ post, p.1 < D))
set_option maxRecDepth 100000 in
set_option maxHeartbeats 2000000 in
theorem box_turn {w : World} {s : Shared} {g : Heap} {p : Program} {loose : List Str} {mean : ExcName → Option Value} {mg mb : Str → Option Value} {e : Env} {L fa : Addr} {cd : Value}
    {m : Str → Option Value} {nw : List (Addr × Obj)} {P B : Addr} {r gr b x y : Int} {v0 v1 v2 tx ty : Tok} {vs : List Value} {n : Nat}
    (X : (hd.heap_1 w.params).In g) (T : Top p loose mean mg mb g) (F : Fr g L s.heap m) (N : News g L s.heap ((B, listOf (List.toArray vs) n) :: (P, listOf #[.int r v0, .int gr v1, .int b v2] 0) :: nw)) (hpost : ∀ p ∈ (P, listOf #[.int r v0, .int gr v1, .int b v2] 0) :: nw, p.1 ≠ B)
    (e1 : m (Str.ofString "parts") = some (.ref P)) (e2 : m (Str.ofString "box") = some (.ref B)) (e3 : m (Str.ofString "x") = some (.int x tx)) (e4 : m (Str.ofString "y") = some (.int y ty)) (hx : -10 < x ∧ x < 10) (hy : -10 < y ∧ y < 10) (hl : vs.length < 1000) :
    wpAny (model PG w) (callerA.deeper e) (execs boxIf (lawEnv L fa cd)) (BoxR s g L m B vs ((P, listOf #[.int r v0, .int gr v1, .int b v2] 0) :: nw) r gr b x y) (fun _ _ => False) s := by
  show wpAny _ _ (execs (_ :: _) (envOfC _ {kind := _, names := _, isGenerator := _, isCoroutine := _, more := _} _ _ _)) _ _ _
  refine wpAny_execs_cons ?_
  refine wpAny_If ?_
  refine wpAny_mono (Q := fun bb s₂ => bb = boxOk x y ∧ ∃ tk, s₂ = { s with toks := tk }) ?_ (fun bb s₂ q => ?_) (fun _ _ e => e)
  · clear hpost N e1 e2
    walk_at "m goN"
    all_goals (try simp only [Int.fmod_eq_emod_of_nonneg _ (show (0 : Int) ≤ 2 by decide), Int.fmod_eq_emod_of_nonneg _ (show (0 : Int) ≤ 3 by decide)] at *)
    all_goals first
      | (refine boxOk_t ?_; omega)
      | (refine boxOk_f ?_; omega)
  obtain ⟨hbb, tk, rfl⟩ := q
  cases bb with
  | false =>
    simp only [Bool.false_eq_true, if_false]
    walk_at "m goN"
    exact ⟨rfl, .inl ⟨hbb.symm, _, rfl⟩⟩
  | true =>
    simp only [if_true]
    walk_at "m goN"
    rename_i D h2 l2 h3 F3 N3
    exact ⟨rfl, .inr ⟨hbb.symm, h3, _, D, _, _, _, _, rfl, F3, N3, l2.1, fun p hp => by
      rcases List.mem_cons.mp hp with rfl | hp
      · exact l2.2.1
      · exact allLt_to l2.2.2 p hp⟩⟩
end
example {w : World} {A : Around} {E Q : Value → Shared → Prop} {s : Shared} (h : wpAny (model PySem.Challenge.pw_qu0043_01 w) A (call (.ref 0) []) Q E s) : wpAny (model PySem.Challenge.pw_qu0043_01 w) A (call (.ref 0) []) Q E s := by w_top off; first | (walk1; fail) | exact h
section
-- part LI
local macro_rules | `(tactic| walk_at "call type:range") => `(tactic| (k_here; (with_unfolding_all first | refine' m_range1 (by k_asm) (by k_asm) ?_ | refine' m_range2 (by k_asm) (by k_asm) ?_); k_whole; intro r' h' tk' t' u' v' F' N' hR'))
noncomputable def boxE (r g b y : Int) (k : Nat) : List (List Int) := if boxOk (-4 + k) y then [[size r g b (-4 + k) y, -4 + k, y]] else []
noncomputable def boxRow (r g b y : Int) (j : Nat) : List (List Int) := (List.range j).flatMap (boxE r g b y)
noncomputable def boxP (r g b : Int) (i : Nat) : List (List Int) := (List.range i).flatMap fun k => boxRow r g b (k : Nat) 9
theorem boxRow_succ (r g b y : Int) (j : Nat) : boxRow r g b y (j + 1) = boxRow r g b y j ++ boxE r g b y j := by unfold boxRow; rw [List.range_succ, List.flatMap_append]; simp
theorem boxP_succ (r g b : Int) (i : Nat) : boxP r g b (i + 1) = boxP r g b i ++ boxRow r g b i 9 := by unfold boxP; rw [List.range_succ, List.flatMap_append]; simp
/-- between two turns of the box's loops -/
noncomputable def JBox (B : Addr) (m₀ : Str → Option Value) (ex : Str → Prop) (fixed : List (Addr × Obj)) (bs : Nat → List (List Int)) (lim : Nat → Nat) (i : Nat) (m : Str → Option Value) (news : List (Addr × Obj)) : Prop :=
  ∃ vs n add, (∀ z, ¬ ex z → m z = m₀ z) ∧ news = (B, listOf (List.toArray vs) n) :: (add ++ fixed) ∧ All2 (TupN add) vs (bs i) ∧ (∀ p ∈ add ++ fixed, p.1 ≠ B) ∧ (∀ p ∈ add, ∀ q ∈ fixed, p.1 ≠ q.1) ∧ vs.length ≤ lim i
noncomputable def exX (z : Str) : Prop := z = Str.ofString "x"
noncomputable def exXY (z : Str) : Prop := z = Str.ofString "x" ∨ z = Str.ofString "y"
section
variable {g h' : Heap} {L B I D : Addr} {m m₀ : Str → Option Value} {fixed add : List (Addr × Obj)} {bs : Nat → List (List Int)} {lim : Nat → Nat} {i n tk : Nat} {vs : List Value} {io : Obj} {s : Shared} {Q : Flow → Shared → Prop} {ex : Str → Prop}
theorem box_skip (F : Fr g L h' m) (N : News g L h' ((I, io) :: (B, listOf (List.toArray vs) n) :: (add ++ fixed))) (hne : ∀ p ∈ (B, listOf (List.toArray vs) n) :: (add ++ fixed), p.1 ≠ I) (hm : ∀ z, ¬ ex z → m z = m₀ z) (ha : All2 (TupN add) vs (bs i)) (hB : ∀ p ∈ add ++ fixed, p.1 ≠ B) (had : ∀ p ∈ add, ∀ q ∈ fixed, p.1 ≠ q.1) (hl : vs.length ≤ lim i) (hb : bs (i + 1) = bs i) (hlim : lim i ≤ lim (i + 1)) :
    TurnEnd g L I io (JBox B m₀ ex fixed bs lim (i + 1)) s Q .next { s with heap := h', toks := tk } :=
  ⟨h', tk, m, _, rfl, F, N, hne, vs, n, add, hm, rfl, hb ▸ ha, hB, had, Nat.le_trans hl hlim⟩
theorem box_app {items : List Value} {xs : List Int} {k n' : Nat} (F : Fr g L h' m) (N : News g L h' ((B, listOf (List.toArray (vs ++ [.ref D])) n') :: (D, ({ cls := .type "tuple", data := .seq items.toArray k } : Obj)) :: (I, io) :: (add ++ fixed))) (hD : ∀ p ∈ (B, listOf (List.toArray vs) n) :: (I, io) :: (add ++ fixed), p.1 < D) (hi : IntsAre items xs)
    (hne : ∀ p ∈ (B, listOf (List.toArray vs) n) :: (add ++ fixed), p.1 ≠ I) (hm : ∀ z, ¬ ex z → m z = m₀ z) (ha : All2 (TupN add) vs (bs i)) (hB : ∀ p ∈ add ++ fixed, p.1 ≠ B) (had : ∀ p ∈ add, ∀ q ∈ fixed, p.1 ≠ q.1) (hl : vs.length ≤ lim i) (hb : bs (i + 1) = bs i ++ [xs]) (hlim : lim i + 1 ≤ lim (i + 1)) :
    TurnEnd g L I io (JBox B m₀ ex fixed bs lim (i + 1)) s Q .next { s with heap := h', toks := tk } := by
  refine ⟨h', tk, m, (B, listOf (List.toArray (vs ++ [.ref D])) n') :: ((D, ({ cls := .type "tuple", data := .seq items.toArray k } : Obj)) :: add ++ fixed), rfl, F, News.sub N fun p hp => ?_, fun p hp => ?_, vs ++ [.ref D], n', (D, ({ cls := .type "tuple", data := .seq items.toArray k } : Obj)) :: add, hm, rfl, ?_, fun p hp => ?_, fun p hp q hq => ?_, ?_⟩
  · simp only [List.mem_cons, List.cons_append] at hp ⊢
    rcases hp with h | h | h | h <;> simp [h]
  · simp only [List.mem_cons, List.cons_append] at hp
    rcases hp with rfl | rfl | h
    · exact hne (B, listOf (List.toArray vs) n) (.head _)
    · exact Nat.ne_of_gt (hD _ (.tail _ (.head _)))
    · exact hne _ (.tail _ h)
  · rw [hb]
    exact (ha.mono fun v bs => TupN.mono fun p hp => .tail _ hp).append (.cons ⟨D, items, k, rfl, .head _, hi⟩ .nil)
  · simp only [List.mem_cons, List.cons_append] at hp
    rcases hp with rfl | h
    · exact Nat.ne_of_gt (hD _ (.head _))
    · exact hB p h
  · rcases List.mem_cons.mp hp with rfl | hp
    · exact Nat.ne_of_gt (hD q (.tail _ (.tail _ (List.mem_append_right _ hq))))
    · exact had p hp q hq
  · rw [List.length_append]; simp only [List.length_cons, List.length_nil]; omega
end
theorem small5 : Builtin.Range.small 0 5 1 = true := by decide
theorem small9 : Builtin.Range.small (-4) 5 1 = true := by decide
set_option maxRecDepth 100000 in
set_option maxHeartbeats 8000000 in
theorem lawI {w : World} {s : Shared} {g : Heap} {p : Program} {loose : List Str} {mean : ExcName → Option Value} {mg mb : Str → Option Value} {Q : Flow → Shared → Prop} {e : Env} {L fa : Addr} {cd : Value}
    {m : Str → Option Value} {nw : List (Addr × Obj)} {P : Addr} {r gr b : Int} {v0 v1 v2 : Tok}
    (X : (hd.heap_1 w.params).In g) (T : Top p loose mean mg mb g) (F : Fr g L s.heap m) (N : News g L s.heap ((P, listOf #[.int r v0, .int gr v1, .int b v2] 0) :: nw)) (e1 : m (Str.ofString "parts") = some (.ref P))
    (hK : ∀ h' tk' m' B vs n add, Fr g L h' m' → News g L h' ((B, listOf (List.toArray vs) n) :: (add ++ (P, listOf #[.int r v0, .int gr v1, .int b v2] 0) :: nw)) → All2 (TupN add) vs (boxP r gr b 5) → vs.length ≤ 45 → m' (Str.ofString "box") = some (.ref B) → (∀ z, z ≠ Str.ofString "box" → ¬ exXY z → m' z = m z) →
      wpAny (model PG w) (callerA.deeper e) (execs (lawRest 17) (lawEnv L fa cd)) Q (fun _ _ => False) { s with heap := h', toks := tk' }) :
    wpAny (model PG w) (callerA.deeper e) (execs (lawRest 15) (lawEnv L fa cd)) Q (fun _ _ => False) s := by
  show wpAny _ _ (execs (_ :: _) (envOfC _ {kind := _, names := _, isGenerator := _, isCoroutine := _, more := _} _ _ _)) _ _ _
  have hst : StopLn 211 := trivial
  walk_at "m goL"
  rename_i B h1 l1 h2 F2 N2
  refine For_invV g (by rfl) (by rfl) ?_ (by intro _; rfl) PassesOwn.never
  walk_at "m goL"
  rename_i R3 h3 tk3 q1 q2 q3 F3 N3 hR3
  refine iter_range (n := 5) (JBox B (fun y => if y = Str.ofString "box" then some (.ref B) else m y) exXY ((P, listOf #[.int r v0, .int gr v1, .int b v2] 0) :: nw) (boxP r gr b) (fun i => 9 * i)) rfl F3 N3 hR3 small5 (by decide)
    ⟨[], 0, [], fun _ _ => rfl, rfl, .nil, all_ne (Nat.ne_of_lt l1.1) (fun p hp => Nat.ne_of_lt (allLt_to l1.2 p hp)), (fun _ h => nomatch h), Nat.le_refl _⟩ ?_ ?_
  · clear F3 N3 hR3
    rintro I i t m₁ news₁ h4 tk4 io hi ⟨vs, n, add, hm, rfl, ha, hB, had, hl⟩ hne F4 N4
    have N4' : News g L h4 ((B, listOf (List.toArray vs) n) :: (add ++ (I, io) :: (P, listOf #[.int r v0, .int gr v1, .int b v2] 0) :: nw)) := News.sub N4 fun p hp => by
      revert p; walk_at "m me"
    walk_at "m goL"
    refine For_invV g (by rfl) (by rfl) ?_ (by intro _; rfl) PassesOwn.never
    walk_at "m goL"
    rename_i R5 h5 tk5 q4 q5 q6 F5 N5 hR5
    have F5' : Fr g L h5 (fun y => if y = Str.ofString "y" then some (.int (0 + i) t) else m₁ y) := F5
    have N5' : News g L h5 ((B, listOf (List.toArray vs) n) :: (add ++ (I, io) :: (P, listOf #[.int r v0, .int gr v1, .int b v2] 0) :: nw)) := News.sub N5 fun p hp => by
      revert p; walk_at "m me"
    clear F5 N5 F4
    have hIB : I ≠ B := Ne.symm (hne _ (.head _))
    refine iter_range (n := 9) (JBox B (fun y => if y = Str.ofString "y" then some (.int (0 + i) t) else m₁ y) exX ((I, io) :: (P, listOf #[.int r v0, .int gr v1, .int b v2] 0) :: nw) (fun j => boxP r gr b i ++ boxRow r gr b i j) (fun j => 9 * i + j)) rfl F5' N5' hR5 small9 (by decide)
      ⟨vs, n, add, fun _ _ => rfl, rfl, (by show All2 (TupN add) vs (boxP r gr b i ++ boxRow r gr b i 0); rw [show boxRow r gr b i 0 = [] from rfl, List.append_nil]; exact ha), fun p hp => ?_, fun p hp q hq => ?_, hl⟩ ?_ ?_
    · simp only [List.mem_append, List.mem_cons] at hp
      rcases hp with h | rfl | h
      · exact hB p (List.mem_append_left _ h)
      · exact hIB
      · exact hB p (List.mem_append_right _ (by simp only [List.mem_cons]; exact h))
    · rcases List.mem_cons.mp hq with rfl | hq
      · exact hne _ (.tail _ (List.mem_append_left _ hp))
      · exact had p hp q hq
    · clear F5' N5' hR5 ha hB had hl
      rintro I2 k t2 m₂ news₂ h6 tk6 io2 hk ⟨vs2, n2, add2, hm2, rfl, ha2, hB2, had2, hl2⟩ hne2 F6 N6
      have hl2' : vs2.length ≤ 9 * i + k := hl2
      have F6' : Fr g L h6 (fun y => if y = Str.ofString "x" then some (.int (-4 + k) t2) else m₂ y) := F6
      have N6' : News g L h6 ((B, listOf (List.toArray vs2) n2) :: (P, listOf #[.int r v0, .int gr v1, .int b v2] 0) :: (I2, io2) :: (add2 ++ (I, io) :: (P, listOf #[.int r v0, .int gr v1, .int b v2] 0) :: nw)) := News.sub N6 fun p hp => by
        revert p; walk_at "m me"
      have hpost : ∀ p ∈ (P, listOf #[.int r v0, .int gr v1, .int b v2] 0) :: (I2, io2) :: (add2 ++ (I, io) :: (P, listOf #[.int r v0, .int gr v1, .int b v2] 0) :: nw), p.1 ≠ B := fun p hp => by
        simp only [List.mem_cons, List.mem_append] at hp
        rcases hp with rfl | rfl | h
        · exact Nat.ne_of_lt l1.1
        · exact Ne.symm (hne2 _ (.head _))
        · exact hB2 p (by simp only [List.mem_cons, List.mem_append]; exact h)
      have y1 : m₂ (Str.ofString "y") = some (.int (0 + i) t) := (hm2 _ (by unfold exX; decide)).trans (if_pos rfl)
      have y2 : m₂ (Str.ofString "box") = some (.ref B) := ((hm2 _ (by unfold exX; decide)).trans (if_neg (by decide))).trans ((hm _ (by unfold exXY; decide)).trans (if_pos rfl))
      have y3 : m₂ (Str.ofString "parts") = some (.ref P) := (((hm2 _ (by unfold exX; decide)).trans (if_neg (by decide))).trans ((hm _ (by unfold exXY; decide)).trans (if_neg (by decide)))).trans e1
      have hm3 : ∀ z, ¬ exX z → (fun y => if y = Str.ofString "x" then some (Value.int (-4 + (k : Int)) t2) else m₂ y) z = (fun y => if y = Str.ofString "y" then some (Value.int (0 + (i : Int)) t) else m₁ y) z := fun z hz => (if_neg hz).trans (hm2 z hz)
      obtain ⟨m3, x1, x2, x3, x4, hm4, F7⟩ : ∃ m3, m3 (Str.ofString "x") = some (Value.int (-4 + (k : Int)) t2) ∧ m3 (Str.ofString "y") = some (Value.int (0 + (i : Int)) t) ∧ m3 (Str.ofString "box") = some (Value.ref B) ∧ m3 (Str.ofString "parts") = some (Value.ref P) ∧ (∀ z, ¬ exX z → m3 z = (fun y => if y = Str.ofString "y" then some (Value.int (0 + (i : Int)) t) else m₁ y) z) ∧ Fr g L h6 m3 :=
        ⟨_, if_pos rfl, (if_neg (by decide)).trans y1, (if_neg (by decide)).trans y2, (if_neg (by decide)).trans y3, hm3, F6'⟩
      clear F6 F6' N6 y1 y2 y3 hm3 hm2
      have hk5 : (i : Int) < 5 := by omega
      have hk9 : (k : Int) < 9 := by omega
      refine wpAny_mono (box_turn (x := -4 + k) (y := 0 + i) (vs := vs2) (n := n2) X T F7 N6' hpost x4 x3 x1 x2 (by omega) (by omega) (by omega)) (fun f s₂ q => ?_) (fun _ _ e => e)
      have hbs : ∀ l, boxE r gr b i k = l → (boxP r gr b i ++ boxRow r gr b i (k + 1)) = (boxP r gr b i ++ boxRow r gr b i k) ++ l := fun l hl => by rw [boxRow_succ, hl, List.append_assoc]
      rw [Int.zero_add] at q
      obtain ⟨rfl, ⟨hf, tk7, rfl⟩ | ⟨ht, h7, tk7, D, t7, u7, w7, n7, rfl, F8, N8, hBD, hpD⟩⟩ := q
      · refine box_skip F7 (News.sub N6' fun p hp => ?_) hne2 hm4 ha2 hB2 had2 hl2' ((hbs [] (if_neg (by rw [hf]; decide))).trans (List.append_nil _)) (Nat.le_succ _)
        revert p; walk_at "m me"
      · refine box_app (vs := vs2) (add := add2) (n := n2) (k := 0) (D := D) (items := [.int (size r gr b (-4 + k) i) t7, .int (-4 + k) u7, .int i w7]) (n' := n7) F8 (News.sub N8 fun p hp => ?_) (fun p hp => ?_) (.cons _ _ (.cons _ _ (.cons _ _ .nil))) hne2 hm4 ha2 hB2 had2 hl2' (hbs _ (if_pos ht)) (Nat.le_refl _)
        · revert p; walk_at "m me"
        · simp only [List.mem_cons, List.mem_append] at hp
          rcases hp with rfl | rfl | h
          · exact hBD
          · exact hpD _ (.tail _ (.head _))
          · refine hpD p (List.mem_cons_of_mem _ (List.mem_cons_of_mem _ ?_))
            simp only [List.mem_cons, List.mem_append]
            exact h
    · rintro h6 tk6 m₂ news₂ F6 N6 ⟨vs2, n2, add2, hm2, rfl, ha2, hB2, had2, hl2⟩
      have hl2' : vs2.length ≤ 9 * i + 9 := hl2
      have ha2' : All2 (TupN add2) vs2 (boxP r gr b (i + 1)) := by rw [boxP_succ]; exact ha2
      walk_at "m goL"
      refine ⟨h6, _, m₂, (B, listOf (List.toArray vs2) n2) :: (add2 ++ (P, listOf #[.int r v0, .int gr v1, .int b v2] 0) :: nw), rfl, F6, News.sub N6 fun p hp => ?_, fun p hp => ?_, vs2, n2, add2, fun z hz => ?_, rfl, ha2', fun p hp => ?_, fun p hp q hq => had2 p hp q (.tail _ hq), by show vs2.length ≤ 9 * (i + 1); omega⟩
      · revert p; walk_at "m me"
      · simp only [List.mem_cons, List.mem_append] at hp
        rcases hp with rfl | h | h
        · exact Ne.symm hIB
        · exact had2 p h _ (.head _)
        · exact hne p (.tail _ (List.mem_append_right _ (by simp only [List.mem_cons]; exact h)))
      · exact ((hm2 z fun q => hz (.inl q)).trans (if_neg fun q => hz (.inr q))).trans (hm z hz)
      · simp only [List.mem_cons, List.mem_append] at hp
        rcases hp with h | h
        · exact hB2 p (List.mem_append_left _ h)
        · exact hB2 p (List.mem_append_right _ (by simp only [List.mem_cons]; exact .inr h))
  · rintro h6 tk6 m₂ news₂ F6 N6 ⟨vs2, n2, add2, hm2, rfl, ha2, hB2, had2, hl2⟩
    exact hK _ _ m₂ B vs2 n2 add2 F6 N6 ha2 hl2 ((hm2 _ (by unfold exXY; decide)).trans (if_pos rfl)) fun z h1 h2 => (hm2 z h2).trans (if_neg h1)
end
example {w : World} {A : Around} {E Q : Value → Shared → Prop} {s : Shared} (h : wpAny (model PySem.Challenge.pw_qu0043_01 w) A (call (.ref 0) []) Q E s) : wpAny (model PySem.Challenge.pw_qu0043_01 w) A (call (.ref 0) []) Q E s := by w_top off; first | (walk1; fail) | exact h
section
-- part LJ
local macro_rules | `(tactic| walk_at "subscriptTail Name Slice ref ref") => `(tactic| (k_here; (with_unfolding_all refine' cut5 (by k_asm) (by k_asm) (by k_mem) ?_ (by with_unfolding_all rfl) (by intro _; with_unfolding_all rfl); k_whole); intro D' h' F' N' l'))
noncomputable def inBox : List Int → Bool
  | [_, x, y, _, _] => decide (x.natAbs < 5) && decide (y < 5)
  | _ => false
theorem inBox_t {s x y u v : Int} (h : (if x < 0 then -x else x) < 5 ∧ y < 5) : true = inBox [s, x, y, u, v] := by
  have h1 : x.natAbs < 5 := by have := h.1; split at this <;> omega
  show true = (decide (x.natAbs < 5) && decide (y < 5))
  rw [decide_eq_true h1, decide_eq_true h.2]; rfl
theorem inBox_f {s x y u v : Int} (h : ¬ ((if x < 0 then -x else x) < 5 ∧ y < 5)) : false = inBox [s, x, y, u, v] := by
  symm
  rw [Bool.eq_false_iff]
  intro q
  have q' : (decide (x.natAbs < 5) && decide (y < 5)) = true := q
  simp only [Bool.and_eq_true, decide_eq_true_eq] at q'
  exact h ⟨by split <;> omega, q'.2⟩
noncomputable def withinP (es : List (List Int)) : List (List Int) := (es.filter inBox).map (List.take 3)
set_option maxRecDepth 100000 in
set_option maxHeartbeats 8000000 in
theorem lawJ {w : World} {E : Value → Shared → Prop} {s : Shared} {g : Heap} {p : Program} {loose : List Str} {mean : ExcName → Option Value} {mg mb : Str → Option Value} {Q : Flow → Shared → Prop} {e : Env} {L fa : Addr} {cd : Value}
    {m : Str → Option Value} {nw tups : List (Addr × Obj)} {om : Obj} {M : Addr} {ms : List Value} {n : Nat} {es : List (List Int)}
    (X : (hd.heap_1 w.params).In g) (T : Top p loose mean mg mb g) (F : Fr g L s.heap m) (N : News g L s.heap nw) (hM : (M, listOf (List.toArray ms) n) ∈ nw) (hom : (L + 1, om) ∈ nw) (hsub : ∀ p ∈ tups, p ∈ nw) (dm : om.data = .cell (some (.ref M)))
    (ha : All2 (TupN tups) ms es) (h8 : es.length = 8) (h5 : ∀ e ∈ es, ∃ s x y u v, e = [s, x, y, u, v])
    (hK : ∀ h' tk' D ys k nw', Fr g L h' (fun z => if z = Str.ofString "within" then some (.ref D) else m z) → News g L h' ((D, listOf (List.toArray ys) k) :: nw') → All2 (TupN nw') ys (withinP es) → (∀ p ∈ nw, p ∈ nw') → (∀ p ∈ nw', p.1 ≠ D) → ys.length ≤ 8 →
      wpAny (model PG w) (callerA.deeper e) (execs (lawRest 18) (lawEnv L fa cd)) Q E { s with heap := h', toks := tk' }) :
    wpAny (model PG w) (callerA.deeper e) (execs (lawRest 17) (lawEnv L fa cd)) Q E s := by
  show wpAny _ _ (execs (_ :: _) (envOfC _ {kind := _, names := _, isGenerator := _, isCoroutine := _, more := _} _ _ _)) _ _ _
  have hst : StopLn 212 := trivial
  have N0 : News g L s.heap ((M, listOf (List.toArray ms) n) :: (L + 1, om) :: nw) := News.sub N fun p hp => by
    simp only [List.mem_cons] at hp
    rcases hp with rfl | rfl | h
    · exact hM
    · exact hom
    · exact h
  walk_at "m goN"
  refine comp_assign F (clf := fun _ => []) (cs := fun _ => []) (cl := []) (by with_unfolding_all rfl) (by with_unfolding_all rfl) rfl (by decide) (by rfl) (by rfl) (env_none (by decide) rfl) (fun _ => List.forall_mem_nil _) ?_
  walk_at "m goN"
  refine ⟨M, ms, _, fun C i ys nw' => All2 (TupN nw') ys (withinP (es.take i)) ∧ ys.length ≤ i ∧ ∀ p ∈ nw, p ∈ nw', rfl, rfl, F, N0, ⟨n, .head _⟩, by rw [ha.length, h8, sizeLine_eq]; omega, fun C _ => ⟨.nil, Nat.le_refl _, fun p hp => .tail _ (.tail _ hp)⟩, fun C i ys nw' q => q.2.1, ?_, ?_⟩
  · intro i v I oI C oC D m₂ ys nw' h₃ tk₃ E' hi hv hJ hoC F₃ N₃ off ne hS
    obtain ⟨j1, j2, j3⟩ := hJ
    refine c_assign (by rfl) rfl hoC F₃ N₃ ne.1 ne.2.2 (fun p hp => (off p hp).2.1) ?_
    intro h₄ tk₄ oC' hoC' F₄ N₄
    obtain ⟨xs, hxs, a, its, k, rfl, hat, hits⟩ := ha.get hv
    obtain ⟨sz, x, y, u, w', rfl⟩ := h5 xs (List.mem_of_getElem? hxs)
    obtain ⟨q1, q2, q3, q4, q5, rfl⟩ := int5 hits
    have hx : (fun z => if z = Str.ofString "one" then some (Value.ref a) else m₂ z) (Str.ofString "one") = some (Value.ref a) := if_pos rfl
    generalize (fun z => if z = Str.ofString "one" then some (Value.ref a) else m₂ z) = m₃ at hoC' hx
    have N₅ := News.put4 N₄ (j3 _ (hsub _ hat))
    clear F₃ N₃ N₄ hoC N0
    refine wpAny_mono (Q := fun bb s₂ => bb = inBox [sz, x, y, u, w'] ∧ ∃ tk, s₂ = { s with heap := h₄, toks := tk }) ?_ (fun bb s₂ q => ?_) (fun _ _ e => e)
    · walk_at "m goN"
      all_goals first
        | exact inBox_t ⟨by assumption, by assumption⟩
        | (refine inBox_f (fun q => ?_); first | exact absurd q.1 (by assumption) | exact absurd q.2 (by assumption))
    · obtain ⟨hbb, tk, rfl⟩ := q
      have htk : ∀ l, (if inBox [sz, x, y, u, w'] then [[sz, x, y]] else []) = l → withinP (es.take (i + 1)) = withinP (es.take i) ++ l := fun l hl => by
        rw [List.take_add_one, hxs, withinP, withinP, List.filter_append, List.map_append, ← hl]
        congr 1
        cases hq : inBox [sz, x, y, u, w'] <;> simp [hq]
      cases bb with
      | false =>
        rw [if_neg (by decide)]
        refine ⟨h₄, _, oC', _, nw', rfl, hoC', F₄, News.drop4 N₅, off, hS, ?_, by omega, j3⟩
        rw [htk [] (if_neg (by rw [← hbb]; decide)), List.append_nil]
        exact j1
      | true =>
        rw [if_pos rfl]
        walk_at "m goN"
        rename_i D2 h6 F6 N6 l6
        obtain ⟨k', hk'⟩ := hS
        refine ⟨h6, _, oC', _, (D2, ({ cls := .type "tuple", data := .seq #[.int sz q1, .int x q2, .int y q3] } : Obj)) :: nw', rfl, hoC', F6, News.sub N6 fun p hp => ?_, fun p hp => ?_, ⟨k', .tail _ hk'⟩, ?_, by rw [List.length_append]; simp only [List.length_cons, List.length_nil]; omega, fun p hp => .tail _ (j3 p hp)⟩
        · revert p; walk_at "m me"
        · rcases List.mem_cons.mp hp with rfl | hp
          · exact ⟨Nat.ne_of_gt (l6 _ (.head _)), Nat.ne_of_gt (l6 _ (.tail _ (.head _))), Nat.ne_of_gt (l6 _ (.tail _ (.tail _ (.head _))))⟩
          · exact off p hp
        · rw [htk [[sz, x, y]] (if_pos hbb.symm)]
          exact (j1.mono fun v xs => TupN.mono fun p hp => .tail _ hp).append (.cons ⟨D2, [.int sz q1, .int x q2, .int y q3], 0, rfl, .head _, .cons _ _ (.cons _ _ (.cons _ _ .nil))⟩ .nil)
  · intro C ys nw' hJ D h₃ tk₃ F₃ N₃ off
    obtain ⟨j1, j2, j3⟩ := hJ
    rw [ha.length, h8] at j2
    rw [List.take_of_length_le (by rw [ha.length]; exact Nat.le_refl _)] at j1
    exact hK _ _ D ys _ nw' F₃ N₃ j1 j3 off j2
-- part LK
section
variable {prog : Program} {w : World} {A : Around} {E : Value → Shared → Prop} {s : Shared} {h₀ : Heap} {L : Addr} {m : Str → Option Value} {news : List (Addr × Obj)}
theorem m_last {value slice : PySem.Expr} {l : Addr} {vs : List Value} {v : Value} {n : Nat} {t : Tok} {Q : Value → Shared → Prop} (N : News h₀ L s.heap news) (hm : (l, listOf vs.toArray n) ∈ news) (h8 : vs.length = 8) (hv : vs[7]? = some v) (h : Q v s)
    (hs : subscripted slice false (.ref l) (.int (-1) t) = operate [.ref l, .int (-1) t] (getItem (.ref l) (.int (-1) t))) :
    wpAny (model prog w) A (subscriptTail value slice (.ref l) (.int (-1) t)) Q E s := by
  have hl : s.heap.IsList l vs.toArray := ⟨_, (N _ hm).1, rfl, n, rfl⟩
  refine tail_any hl.typeIs slot_list_getitem.lookup (wpAny_getItem_list_neg hl (by decide) (by rw [List.size_toArray, h8]; decide) (by decide) ?_ h) hs
  rw [List.size_toArray, h8]
  simpa using hv
theorem m_le {u v : Value} {xs ys : List Int} {Q : Value → Shared → Prop} (N : News h₀ L s.heap news) (hu : TupN news u xs) (hv : TupN news v ys) (hr : A.units < cLine) (h : Q (.bool (lexLe xs ys)) s) : wpAny (model prog w) A (compareOp .LtE u v) Q E s :=
  tup_le (hu.at fun p hp => (N p hp).1) (hv.at fun p hp => (N p hp).1) hr h
end
local macro_rules | `(tactic| walk_at "subscriptTail") => `(tactic| (k_here; (with_unfolding_all refine' m_last (by k_asm) (by k_mem) (by assumption) (by assumption) ?_ (by with_unfolding_all rfl); k_whole)))
set_option maxRecDepth 100000 in
set_option maxHeartbeats 8000000 in
theorem lawK {w : World} {E : Value → Shared → Prop} {s : Shared} {g : Heap} {p : Program} {loose : List Str} {mean : ExcName → Option Value} {mg mb : Str → Option Value} {Q : Flow → Shared → Prop} {e : Env} {L fa : Addr} {cd : Value}
    {m : Str → Option Value} {nw : List (Addr × Obj)} {om : Obj} {M B W : Addr} {ms bs ws : List Value} {n nb nW : Nat} {es box win : List (List Int)} {sz x y u v : Int}
    (X : (hd.heap_1 w.params).In g) (T : Top p loose mean mg mb g) (F : Fr g L s.heap m) (N : News g L s.heap nw) (hM : (M, listOf (List.toArray ms) n) ∈ nw) (hom : (L + 1, om) ∈ nw) (dm : om.data = .cell (some (.ref M)))
    (hB : (B, listOf (List.toArray bs) nb) ∈ nw) (hW : (W, listOf (List.toArray ws) nW) ∈ nw) (ha : All2 (TupN nw) ms es) (hb : All2 (TupN nw) bs box) (hw : All2 (TupN nw) ws win) (h8 : es.length = 8) (h7 : es[7]? = some [sz, x, y, u, v])
    (e1 : m (Str.ofString "within") = some (.ref W)) (e2 : m (Str.ofString "box") = some (.ref B)) (hg : ∀ e ∈ box, Good3 e) (hnd : (box.map keyT).Nodup) (b2 : 2 ≤ box.length) (b64 : box.length < 64)
    (hplain : ∀ es' : List (List Int), es'.Perm box → es'.Pairwise (fun e f => keyT e ≤ keyT f) → es'.filter (fun e => lexLe e [sz, x, y]) = win)
    (hK : ∀ h' tk', Fr g L h' m → News g L h' nw → wpAny (model PG w) (callerA.deeper e) (execs (lawRest 19) (lawEnv L fa cd)) Q E { s with heap := h', toks := tk' }) :
    wpAny (model PG w) (callerA.deeper e) (execs (lawRest 18) (lawEnv L fa cd)) Q E s := by
  show wpAny _ _ (execs (_ :: _) (envOfC _ {kind := _, names := _, isGenerator := _, isCoroutine := _, more := _} _ _ _)) _ _ _
  have hst : StopLn 214 := trivial
  have N0 : News g L s.heap ((B, listOf (List.toArray bs) nb) :: nw) := News.sub N fun p hp => by
    simp only [List.mem_cons] at hp
    rcases hp with rfl | h
    · exact hB
    · exact h
  walk_at "m goN"
  refine comp_eval F (clf := fun _ => [(Str.ofString "met", L + 1)]) (cs := fun _ => []) (cl := [(Str.ofString "met", L + 1)]) (by with_unfolding_all rfl) rfl (by decide) (env_none (by decide) rfl) (fun _ => List.forall_mem_nil _) ?_
  walk_at "m goN"
  refine m_sortedT F N0 (.head _) (hb.mono fun v xs => TupN.mono fun p hp => .tail _ hp) hg hnd b2 b64 (by with_unfolding_all exact Nat.le_of_ble_eq_true rfl) ?_
  intro D1 h1 tk1 vs' es' c1 F1 N1 l1 ha1 hp1 hs1
  have hlen := ha1.length
  have hplen := hp1.length_eq
  refine ⟨D1, vs', _, fun C i ys nw' => All2 (TupN nw') ys ((es'.take i).filter (fun e => lexLe e [sz, x, y])) ∧ ys.length ≤ i ∧ ∀ p ∈ nw, p ∈ nw', rfl, rfl, F1, N1, ⟨c1, .head _⟩, by rw [sizeLine_eq]; omega, fun C _ => ⟨.nil, Nat.le_refl _, fun p hp => .tail _ (.tail _ hp)⟩, fun C i ys nw' q => q.2.1, ?_, ?_⟩
  · intro i v I oI C oC D m₂ ys nw' h₃ tk₃ E' hi hv hJ hoC F₃ N₃ off ne hS
    obtain ⟨j1, j2, j3⟩ := hJ
    refine c_assign (by rfl) rfl hoC F₃ N₃ ne.1 ne.2.2 (fun p hp => (off p hp).2.1) ?_
    intro h₄ tk₄ oC' hoC' F₄ N₄
    obtain ⟨xs, hxs, hv1⟩ := ha1.get hv
    obtain ⟨a, its, ka, rfl, hat, hits⟩ := hv1
    have hat' : (a, ({ cls := .type "tuple", data := .seq (List.toArray its) ka } : Obj)) ∈ nw' := by
      rcases List.mem_cons.mp hat with q | q
      · have q2 := congrArg (fun p : Addr × Obj => p.2.cls) q
        simp at q2
      · exact j3 _ q
    have hms8 : ms.length = 8 := by rw [ha.length, h8]
    obtain ⟨vl, hvl⟩ : ∃ vl, ms[7]? = some vl := ⟨ms[7], by simp [hms8]⟩
    obtain ⟨xl, hxl, al, itl, kl, rfl, hal, hitl⟩ := ha.get hvl
    rw [h7] at hxl
    cases hxl
    obtain ⟨q1, q2, q3, q4, q5, rfl⟩ := int5 hitl
    have hx : (fun z => if z = Str.ofString "one" then some (Value.ref a) else m₂ z) (Str.ofString "one") = some (Value.ref a) := if_pos rfl
    generalize (fun z => if z = Str.ofString "one" then some (Value.ref a) else m₂ z) = m₃ at hoC' hx
    obtain ⟨nx, hnx⟩ : ∃ nx, nx = (M, listOf (List.toArray ms) n) :: (L + 1, om) :: (al, ({ cls := .type "tuple", data := .seq #[.int sz q1, .int x q2, .int y q3, .int u q4, .int v q5] kl } : Obj)) :: nw' := ⟨_, rfl⟩
    have N₅ : News g L h₄ ((I, oI) :: (C, oC') :: (D, LCg.lst ys) :: (M, listOf (List.toArray ms) n) :: (L + 1, om) :: (al, ({ cls := .type "tuple", data := .seq #[.int sz q1, .int x q2, .int y q3, .int u q4, .int v q5] kl } : Obj)) :: nw') := News.put4 (News.sub (News.put4 N₄ (j3 _ hom)) fun p hp => by
      simp only [List.mem_cons] at hp ⊢
      rcases hp with h | h | h | h | h | h
      · exact .inl h
      · exact .inr (.inl h)
      · exact .inr (.inr (.inl h))
      · exact .inr (.inr (.inr (.inl h)))
      · exact .inr (.inr (.inr (.inr (by rw [h]; exact j3 _ hal))))
      · exact .inr (.inr (.inr (.inr h)))) (.tail _ (.tail _ (j3 _ hM)))
    clear F₃ N₃ N₄ hoC N0
    refine wpAny_mono (Q := fun bb s₂ => bb = lexLe xs [sz, x, y] ∧ ∃ h' tk, s₂ = { s with heap := h', toks := tk } ∧ Fr g L h' m ∧ News g L h' ((I, oI) :: (C, oC') :: (D, LCg.lst ys) :: nw')) ?_ (fun bb s₂ q => ?_) (fun _ _ e => e)
    · walk_at "m goN"
      rename_i D2 h6 F6 N6 l6
      refine m_le N6 ⟨a, its, ka, rfl, .tail _ (.tail _ (.tail _ (.tail _ (.tail _ (.tail _ (.tail _ hat')))))), hits⟩ ⟨D2, [.int sz q1, .int x q2, .int y q3], 0, rfl, .head _, .cons _ _ (.cons _ _ (.cons _ _ .nil))⟩ (by with_unfolding_all exact Nat.le_of_ble_eq_true rfl) ?_
      walk_at "m goN"
      · exact F6
      · exact News.sub N6 fun p hp => by
          simp only [List.mem_cons] at hp ⊢
          rcases hp with h | h | h | h
          · exact .inr (.inl h)
          · exact .inr (.inr (.inl h))
          · exact .inr (.inr (.inr (.inl h)))
          · exact .inr (.inr (.inr (.inr (.inr (.inr (.inr h))))))
    · obtain ⟨hbb, h6, tk6, rfl, F6, N6⟩ := q
      have htk : ∀ l, (if lexLe xs [sz, x, y] then [xs] else []) = l → (es'.take (i + 1)).filter (fun e => lexLe e [sz, x, y]) = (es'.take i).filter (fun e => lexLe e [sz, x, y]) ++ l := fun l hl => by
        rw [List.take_add_one, hxs, List.filter_append, ← hl]
        congr 1
        cases hq : lexLe xs [sz, x, y] <;> simp [hq]
      cases bb with
      | false =>
        rw [if_neg (by decide)]
        refine ⟨h6, _, oC', _, nw', rfl, hoC', F6, N6, off, hS, ?_, by omega, j3⟩
        rw [htk [] (if_neg (by rw [← hbb]; decide)), List.append_nil]
        exact j1
      | true =>
        rw [if_pos rfl]
        walk_at "m goN"
        refine ⟨h6, _, oC', _, nw', rfl, hoC', F6, N6, off, hS, ?_, by rw [List.length_append]; simp only [List.length_cons, List.length_nil]; omega, j3⟩
        rw [htk [xs] (if_pos hbb.symm)]
        exact j1.append (.cons ⟨a, its, ka, rfl, hat', hits⟩ .nil)
  · intro C ys nw' hJ D h₃ tk₃ F₃ N₃ off
    obtain ⟨j1, j2, j3⟩ := hJ
    rw [List.take_of_length_le (by omega), hplain es' hp1 hs1] at j1
    refine m_neT N₃ (.tail _ (j3 _ hW)) (.head _) (hw.mono fun v xs => TupN.mono fun p hp => .tail _ (j3 p hp)) (j1.mono fun v xs => TupN.mono fun p hp => .tail _ hp) (by with_unfolding_all exact Nat.le_of_ble_eq_true rfl) ?_
    walk_at "m goN"
    exact hK _ _ F₃ (News.sub N₃ fun p hp => .tail _ (j3 p hp))
end
example {w : World} {A : Around} {E Q : Value → Shared → Prop} {s : Shared} (h : wpAny (model PySem.Challenge.pw_qu0043_01 w) A (call (.ref 0) []) Q E s) : wpAny (model PySem.Challenge.pw_qu0043_01 w) A (call (.ref 0) []) Q E s := by w_top off; first | (walk1; fail) | exact h
section
-- part LL
local macro_rules | `(tactic| walk_at "subscriptTail") => `(tactic| (k_here; (with_unfolding_all refine' m_last (by k_asm) (by k_mem) (by assumption) (by assumption) ?_ (by with_unfolding_all rfl); k_whole)))
theorem News.dropM {h₀ h : Heap} {L : Addr} {a b c d : Addr × Obj} {l : List (Addr × Obj)} (N : News h₀ L h (a :: b :: c :: d :: l)) : News h₀ L h (a :: l) := News.sub N fun p hp => by
  revert p; walk_at "m me"
theorem thousand (c : Int) : -500 ≤ c.fmod 1001 - 500 ∧ c.fmod 1001 - 500 ≤ 500 := by
  rw [Int.fmod_eq_emod_of_nonneg _ (by decide)]
  omega
theorem prod_b {a b : Int} (ha : -500 ≤ a ∧ a ≤ 500) (hb : -30000 < b ∧ b < 30000) : -15000000 ≤ a * b ∧ a * b ≤ 15000000 := by
  have h1 : 0 ≤ (500 - a) * (30000 - b) := Int.mul_nonneg (by omega) (by omega)
  have h2 : 0 ≤ (500 + a) * (30000 + b) := Int.mul_nonneg (by omega) (by omega)
  have h3 : 0 ≤ (500 - a) * (30000 + b) := Int.mul_nonneg (by omega) (by omega)
  have h4 : 0 ≤ (500 + a) * (30000 - b) := Int.mul_nonneg (by omega) (by omega)
  rw [Int.sub_mul, Int.mul_sub, Int.mul_sub] at h1
  rw [Int.add_mul, Int.mul_add, Int.mul_add] at h2
  rw [Int.sub_mul, Int.mul_add, Int.mul_add] at h3
  rw [Int.add_mul, Int.mul_sub, Int.mul_sub] at h4
  omega
local macro_rules | `(tactic| walk_at "m b") => `(tactic| (simp only [List.getD_cons_zero, List.getD_cons_succ, show Int.toNat 0 = 0 from rfl, show Int.toNat 1 = 1 from rfl]; omega))
local macro_rules | `(tactic| walk_at "m call") => `(tactic| walk_at "m sz")
local macro_rules | `(tactic| walk_at "binaryOp Mult int int") => `(tactic| (refine m_mulN (by omega) (by omega) ?_; intro t tk))
set_option maxRecDepth 100000 in
set_option maxHeartbeats 8000000 in
theorem lawL1 {w : World} {E : Value → Shared → Prop} {s : Shared} {g : Heap} {p : Program} {loose : List Str} {mean : ExcName → Option Value} {mg mb : Str → Option Value} {Q : Flow → Shared → Prop} {e : Env} {L fa : Addr} {cd : Value}
    {m : Str → Option Value} {nw : List (Addr × Obj)} {om : Obj} {M C : Addr} {ms : List Value} {n : Nat} {es : List (List Int)} {sz x y u v c0 c1 c2 : Int} {t0 t1 t2 : Tok}
    (X : (hd.heap_1 w.params).In g) (T : Top p loose mean mg mb g) (F : Fr g L s.heap m) (N : News g L s.heap ((C, listOf #[.int c0 t0, .int c1 t1, .int c2 t2] 0) :: nw)) (hM : (M, listOf (List.toArray ms) n) ∈ nw) (hom : (L + 1, om) ∈ nw) (dm : om.data = .cell (some (.ref M)))
    (ha : All2 (TupN nw) ms es) (h8 : es.length = 8) (h7 : es[7]? = some [sz, x, y, u, v])
    (e1 : m (Str.ofString "cells") = some (.ref C)) (bx : -50 < x ∧ x < 50) (by' : -50 < y ∧ y < 50) (bu : -50 < u ∧ u < 50) (bv : -50 < v ∧ v < 50)
    (hK : ∀ h' tk' m' D to fro q1 q2 q3 q4 t3, Fr g L h' m' → News g L h' ((D, listOf #[.int (x + to * u) q3, .int (y + to * v) q4] 0) :: nw) → m' (Str.ofString "far") = some (.ref D) → m' (Str.ofString "fro") = some (.int fro t3) → m' (Str.ofString "ahead") = some (.int u q1) → m' (Str.ofString "above") = some (.int v q2) →
      -500 ≤ to ∧ to ≤ 500 → -500 ≤ fro ∧ fro ≤ 500 → (∀ z ∈ [Str.ofString "parts", Str.ofString "least", Str.ofString "most", Str.ofString "middle"], m' z = m z) → wpAny (model PG w) (callerA.deeper e) (execs (lawRest 23) (lawEnv L fa cd)) Q E { s with heap := h', toks := tk' }) :
    wpAny (model PG w) (callerA.deeper e) (execs (lawRest 19) (lawEnv L fa cd)) Q E s := by
  show wpAny _ _ (execs (_ :: _) (envOfC _ {kind := _, names := _, isGenerator := _, isCoroutine := _, more := _} _ _ _)) _ _ _
  have hst : StopLn 218 := trivial
  have hh : (callerA.deeper e).handled = none := rfl
  have hms8 : ms.length = 8 := by rw [ha.length, h8]
  obtain ⟨vl, hvl⟩ : ∃ vl, ms[7]? = some vl := ⟨ms[7], by simp [hms8]⟩
  obtain ⟨xl, hxl, al, itl, kl, rfl, hal, hitl⟩ := ha.get hvl
  rw [h7] at hxl
  cases hxl
  obtain ⟨q1, q2, q3, q4, q5, rfl⟩ := int5 hitl
  have hTup : IsTup s.heap al #[.int sz q1, .int x q2, .int y q3, .int u q4, .int v q5] := ⟨_, (N _ (.tail _ hal)).1, rfl, kl, rfl⟩
  have N0 : News g L s.heap ((M, listOf (List.toArray ms) n) :: (L + 1, om) :: (C, listOf #[.int c0 t0, .int c1 t1, .int c2 t2] 0) :: nw) := News.sub N fun p hp => by
    simp only [List.mem_cons] at hp ⊢
    rcases hp with rfl | rfl | h
    · exact .inr hM
    · exact .inr hom
    · exact h
  clear N
  walk_at "m goN"
  rename_i D h6 l6 h7 F7 N7
  refine hK _ _ _ D ((c1.fdiv 12).fmod 1001 - 500) ((c2.fdiv 13).fmod 1001 - 500) _ _ _ _ _ F7 (News.dropM N7) rfl rfl rfl rfl (thousand _) (thousand _) ?_
  · intro z hz
    simp only [List.mem_cons, List.not_mem_nil, or_false] at hz
    rcases hz with rfl | rfl | rfl | rfl <;> rfl
set_option maxRecDepth 100000 in
set_option maxHeartbeats 8000000 in
theorem lawL2 {w : World} {E : Value → Shared → Prop} {s : Shared} {g : Heap} {p : Program} {loose : List Str} {mean : ExcName → Option Value} {mg mb : Str → Option Value} {Q : Flow → Shared → Prop} {e : Env} {L fa : Addr} {cd : Value}
    {m : Str → Option Value} {nw : List (Addr × Obj)} {D P : Addr} {r gr b fx fy fro u v : Int} {q1 q2 q3 q4 t3 v0 v1 v2 : Tok}
    (X : (hd.heap_1 w.params).In g) (T : Top p loose mean mg mb g) (F : Fr g L s.heap m) (N : News g L s.heap ((D, listOf #[.int fx q3, .int fy q4] 0) :: (P, listOf #[.int r v0, .int gr v1, .int b v2] 0) :: nw))
    (e1 : m (Str.ofString "far") = some (.ref D)) (e2 : m (Str.ofString "fro") = some (.int fro t3)) (e3 : m (Str.ofString "ahead") = some (.int u q1)) (e4 : m (Str.ofString "above") = some (.int v q2)) (e5 : m (Str.ofString "parts") = some (.ref P))
    (bu : -50 < u ∧ u < 50) (bv : -50 < v ∧ v < 50) (bf : -500 ≤ fro ∧ fro ≤ 500) (bx : -30000 < fx ∧ fx < 30000) (by' : -30000 < fy ∧ fy < 30000)
    (hK : ∀ h' tk' m' lx ly q5 q6 q7, lx = u + fro * fx → ly = v + fro * fy → Fr g L h' m' → News g L h' nw → m' (Str.ofString "first") = some (.int (size r gr b lx ly) q5) → m' (Str.ofString "second") = some (.int (size r gr b fx fy) q6) → m' (Str.ofString "both") = some (.int (size r gr b (lx + fx) (ly + fy)) q7) →
      (∀ z ∈ [Str.ofString "least", Str.ofString "most", Str.ofString "middle"], m' z = m z) → wpAny (model PG w) (callerA.deeper e) (execs (lawRest 27) (lawEnv L fa cd)) Q E { s with heap := h', toks := tk' }) :
    wpAny (model PG w) (callerA.deeper e) (execs (lawRest 23) (lawEnv L fa cd)) Q E s := by
  show wpAny _ _ (execs (_ :: _) (envOfC _ {kind := _, names := _, isGenerator := _, isCoroutine := _, more := _} _ _ _)) _ _ _
  have hst : StopLn 222 := trivial
  obtain ⟨k1, k2⟩ := prod_b bf bx
  obtain ⟨k3, k4⟩ := prod_b bf by'
  walk_at "m goN"
  rename_i h9 F9 N9
  refine hK _ _ _ (u + fro * fx) (v + fro * fy) _ _ _ rfl rfl F9 (News.sub N9 fun p hp => .tail _ (.tail _ (.tail _ hp))) rfl rfl rfl ?_
  intro z hz
  simp only [List.mem_cons, List.not_mem_nil, or_false] at hz
  rcases hz with rfl | rfl | rfl <;> rfl
end
example {w : World} {A : Around} {E Q : Value → Shared → Prop} {s : Shared} (h : wpAny (model PySem.Challenge.pw_qu0043_01 w) A (call (.ref 0) []) Q E s) : wpAny (model PySem.Challenge.pw_qu0043_01 w) A (call (.ref 0) []) Q E s := by w_top off; first | (walk1; fail) | exact h
section
-- part LZ
theorem abs_mul {a b A B : Int} (ha : -A ≤ a ∧ a ≤ A) (hb : -B ≤ b ∧ b ≤ B) : -(A * B) ≤ a * b ∧ a * b ≤ A * B := by
  have h1 : 0 ≤ (A - a) * (B - b) := Int.mul_nonneg (by omega) (by omega)
  have h2 : 0 ≤ (A + a) * (B + b) := Int.mul_nonneg (by omega) (by omega)
  have h3 : 0 ≤ (A - a) * (B + b) := Int.mul_nonneg (by omega) (by omega)
  have h4 : 0 ≤ (A + a) * (B - b) := Int.mul_nonneg (by omega) (by omega)
  rw [Int.sub_mul, Int.mul_sub, Int.mul_sub] at h1
  rw [Int.add_mul, Int.mul_add, Int.mul_add] at h2
  rw [Int.sub_mul, Int.mul_add, Int.mul_add] at h3
  rw [Int.add_mul, Int.mul_sub, Int.mul_sub] at h4
  omega
theorem bil_small {r g b x y u v : Int} (hb : 0 ≤ r ∧ r ≤ 12 ∧ 0 ≤ g ∧ g ≤ 12 ∧ 0 ≤ b ∧ b ≤ 12) (hx : -16000000 ≤ x ∧ x ≤ 16000000) (hy : -16000000 ≤ y ∧ y ≤ 16000000) (hu : -16000000 ≤ u ∧ u ≤ 16000000) (hv : -16000000 ≤ v ∧ v ≤ 16000000) :
    bil r g b x y u v ≤ 2 ^ 58 ∧ -2 ^ 58 ≤ bil r g b x y u v := by
  have a1 := abs_mul (A := 12) (show -12 ≤ r ∧ r ≤ 12 by omega) hx
  have a2 := abs_mul (A := 12) (show -12 ≤ g ∧ g ≤ 12 by omega) hy
  have a3 := abs_mul (A := 12) (B := 32000000) (show -12 ≤ b ∧ b ≤ 12 by omega) (show -32000000 ≤ x - y ∧ x - y ≤ 32000000 by omega)
  have b1 := abs_mul a1 hu
  have b2 := abs_mul a2 hv
  have b3 := abs_mul (B := 32000000) a3 (show -32000000 ≤ u - v ∧ u - v ≤ 32000000 by omega)
  unfold bil
  omega
set_option maxRecDepth 100000 in
set_option maxHeartbeats 8000000 in
theorem lawM {w : World} {E : Value → Shared → Prop} {s : Shared} {g : Heap} {p : Program} {loose : List Str} {mean : ExcName → Option Value} {mg mb : Str → Option Value} {Q : Flow → Shared → Prop} {e : Env} {L fa : Addr} {cd : Value}
    {m : Str → Option Value} {tlI tlD : List (Addr × Obj)} {r gr b x y u v to fro lx ly fx fy mo le mi : Int} {q1 q2 q3 t1 t2 t3 : Tok}
    (X : (hd.heap_1 w.params).In g) (T : Top p loose mean mg mb g) (F : Fr g L s.heap m) (N : News g L s.heap (tlI ++ tlD))
    (CI : CodeHd g 48 44) (CD : CodeHd g 55 51) (htI : TabL 44 75 4 (qInner "_int2digits") tlI) (htD : TabL 51 90 4 (qInner "_digits2int") tlD) (hdis : ∀ p ∈ tlD, p.1 ∉ tlI.map (·.1))
    (e1 : m (Str.ofString "first") = some (.int (size r gr b lx ly) q1)) (e2 : m (Str.ofString "second") = some (.int (size r gr b fx fy) q2)) (e3 : m (Str.ofString "both") = some (.int (size r gr b (lx + fx) (ly + fy)) q3))
    (e4 : m (Str.ofString "least") = some (.int le t1)) (e5 : m (Str.ofString "most") = some (.int mo t2)) (e6 : m (Str.ofString "middle") = some (.int mi t3))
    (hb : 0 ≤ r ∧ r ≤ 12 ∧ 0 ≤ gr ∧ gr ≤ 12 ∧ 0 ≤ b ∧ b ≤ 12) (h2 : (0 < r ∧ 0 < gr) ∨ (0 < r ∧ 0 < b) ∨ (0 < gr ∧ 0 < b)) (hdet : x * v - y * u = 1 ∨ x * v - y * u = -1) (hfx : fx = x + to * u) (hfy : fy = y + to * v) (hlx : lx = u + fro * fx) (hly : ly = v + fro * fy)
    (bf : -16000000 ≤ fx ∧ fx ≤ 16000000) (bg : -16000000 ≤ fy ∧ fy ≤ 16000000) (bl : -16000000 ≤ lx ∧ lx ≤ 16000000) (bm : -16000000 ≤ ly ∧ ly ≤ 16000000)
    (h3 : le + mi = r + gr + b - max r (max gr b)) (h4 : le = min r (min gr b)) (h5 : le + mo = min r (min gr b) + max r (max gr b))
    (hQ : ∀ h' tk' tlI' tlD' rest, Sub g h' → TabL 44 75 4 (qInner "_int2digits") tlI' → TabL 51 90 4 (qInner "_digits2int") tlD' → News g L h' (rest ++ (tlI' ++ tlD')) → Q (.ret (.bool true)) { s with heap := h', toks := tk' }) :
    wpAny (model PG w) (callerA.deeper e) (execs (lawRest 27) (lawEnv L fa cd)) Q E s := by
  show wpAny _ _ (execs (_ :: _) (envOfC _ {kind := _, names := _, isGenerator := _, isCoroutine := _, more := _} _ _ _)) _ _ _
  have hhalf : (size r gr b (lx + fx) (ly + fy) - size r gr b lx ly - size r gr b fx fy).fdiv 2 = bil r gr b lx ly fx fy := bil_half (R := r) (G := gr) (B := b)
  have hbas : Bas r gr b (size r gr b lx ly) (bil r gr b lx ly fx fy) (size r gr b fx fy) := by
    subst hlx hly hfx hfy
    exact bas_start hdet
  walk_at "m goN"
  rw [hhalf]
  have N0 : News g L s.heap ((tlI ++ tlD) ++ []) := by rw [List.append_nil]; exact N
  have s1 := bil_small hb bl bm bl bm
  have s2 := bil_small hb bl bm bf bg
  have s3 := bil_small hb bf bg bf bg
  refine red_ok (Bas r gr b) (g := hideAll s.heap ((tlI ++ tlD).map (·.1))) hideL_sub (Nat.le_of_eq (hideAll_size _ _)) (X.keeps (hideL_above F N0)) (T.keeps (hideL_above F N0)) room' units' rfl (CI.keeps (hideL_above F N0)) (CD.keeps (hideL_above F N0)) htI htD (fun p hp => ⟨(N p hp).1, hideL_none p hp⟩) hdis
    hbas (fun _ _ _ h => Bas.pos hb.1 hb.2.2.1 hb.2.2.2.2.1 h2 h) (fun _ _ _ h => h.swap) (fun _ _ _ _ h => h.shear) s1.1 s3.1 s2.1 s2.2 ?_
  intro h' tk' D uu vv kk zz a' b' c' tlI' tlD' hs htI' htD' ht' hdis' hD hD0 hDD hR' r1 r2 r3
  obtain ⟨g1, g2, g3⟩ := bas_red hb.1 hb.2.2.1 hb.2.2.2.2.1 h2 hR' r1 r2 r3
  rw [g2, ← h4, show a' = le + mi by omega, show c' = le + mo by omega] at hD
  obtain ⟨F₂, N₂, _⟩ := hideL_back (tl' := (D, _) :: (tlI' ++ tlD')) F N0 (List.forall_mem_nil _) hs (fun p hp => by
    rcases List.mem_cons.mp hp with rfl | hp
    · exact ⟨hD, hD0⟩
    · exact ht' p hp)
  rw [List.append_nil] at N₂
  clear F N N0
  walk_at "m goN"
  rename_i D9 h9 F9 N9 l9
  exact hQ _ _ tlI' tlD' [_, _] F9.keep htI' htD' N9
end
example {w : World} {A : Around} {E Q : Value → Shared → Prop} {s : Shared} (h : wpAny (model PySem.Challenge.pw_qu0043_01 w) A (call (.ref 0) []) Q E s) : wpAny (model PySem.Challenge.pw_qu0043_01 w) A (call (.ref 0) []) Q E s := by w_top off; first | (walk1; fail) | exact h
section
-- part Col
noncomputable def hueD (x y z j : Nat) : UInt64 :=
  (Float64.divmod (Float64.div (if x = 0 then Float64.sub (Float64.div (F16 z) (F16 j)) (Float64.div (F16 y) (F16 j))
    else if y = 0 then Float64.sub (Float64.add f2 (Float64.div (F16 x) (F16 j))) (Float64.div (F16 z) (F16 j))
    else Float64.sub (Float64.add f4 (Float64.div (F16 y) (F16 j))) (Float64.div (F16 x) (F16 j))) f6) f1).2
noncomputable def lowW (p : Int) : Int := low3 (wayP p 0) (wayP p 55440) (wayP p 110880)
noncomputable def nearW (p : Int) : List (List Bool) := [wayP p 0, wayP p 55440, wayP p 110880].map (nearRow [wayP p 0, wayP p 55440, wayP p 110880])
noncomputable def nearS (a b c : Int) : List (List Bool) := [a, b, c].map (nearRow [a, b, c])
noncomputable def chkH (x y z j : Nat) : Bool :=
  let h := hueD x y z j
  let q := placeF h
  let p := Flt.toInt Float64.truncOf q
  Float64.isFinite q && decide (0 ≤ p) && decide (p ≤ 166320) && feq h h && decide ((lowW p * j).fdiv 27720 = 2 * (j : Int) - x - y - z) && decide (nearW p = nearS (-((y : Int) + z)) (-((x : Int) + z)) (-((x : Int) + y)))
noncomputable def chkJ (j : Nat) : Bool := (List.range (j + 1)).all fun x => (List.range (j + 1)).all fun y => (List.range (j + 1)).all fun z => !((x == 0 || y == 0 || z == 0) && (x == j || y == j || z == j)) || chkH x y z j
noncomputable def tabA (a b : Nat) : Bool := (ltF (F16 a) (F16 b) == decide (a < b)) && (feq (F16 a) (F16 b) == decide (a = b)) && (decide (a < b) || (Float64.sub (F16 a) (F16 b) == F16 (a - b)))
/-- M, m : the greatest and the least -/
noncomputable def tabB (M m : Nat) : Bool := decide (M < m) || ((let l := Float64.mul (Float64.ofInt 32) (Float64.div (Float64.add (F16 M) (F16 m)) f2)
    Float64.isFinite l && decide (Flt.toInt Float64.truncOf l = M + m)) && (decide (M = m) || (Float64.isZero (Float64.sub (F16 M) (F16 m)) == false && Float64.isZero (Float64.add (F16 M) (F16 m)) == false && Float64.isZero (Float64.sub (Float64.sub f2 (F16 M)) (F16 m)) == false && Float64.isZero (F16 M) == false)))
noncomputable def tabM (M : Nat) : Bool := let l := Float64.mul (Float64.ofInt 16) (F16 M)
  Float64.isFinite l && decide (Flt.toInt Float64.truncOf l = M)
theorem tA : ((List.range 13).all fun a => (List.range 13).all fun b => tabA a b) = true := by decide +kernel
theorem tB : ((List.range 13).all fun a => (List.range 13).all fun b => tabB a b) = true := by decide +kernel
theorem tM : ((List.range 13).all fun a => tabM a) = true := by decide +kernel
noncomputable def chk0 : Bool := let q := placeF f0
  Float64.isFinite q && decide (Flt.toInt Float64.truncOf q = 0) && feq f0 f0
theorem t0 : chk0 = true := by decide +kernel
theorem t1 : chkJ 1 = true := by decide +kernel
theorem t2 : chkJ 2 = true := by decide +kernel
theorem t3 : chkJ 3 = true := by decide +kernel
theorem t4 : chkJ 4 = true := by decide +kernel
theorem t5 : chkJ 5 = true := by decide +kernel
theorem t6 : chkJ 6 = true := by decide +kernel
theorem t7 : chkJ 7 = true := by decide +kernel
theorem t8 : chkJ 8 = true := by decide +kernel
theorem t9 : chkJ 9 = true := by decide +kernel
theorem t10 : chkJ 10 = true := by decide +kernel
theorem t11 : chkJ 11 = true := by decide +kernel
theorem t12 : chkJ 12 = true := by decide +kernel
theorem all_get {n : Nat} {f : Nat → Bool} (h : (List.range n).all f = true) {i : Nat} (hi : i < n) : f i = true := List.all_eq_true.mp h i (List.mem_range.mpr hi)
theorem tabA_at {a b : Nat} (ha : a ≤ 12) (hb : b ≤ 12) : ltF (F16 a) (F16 b) = decide (a < b) ∧ feq (F16 a) (F16 b) = decide (a = b) ∧ (b ≤ a → Float64.sub (F16 a) (F16 b) = F16 (a - b)) := by
  have h := all_get (all_get tA (Nat.lt_succ_of_le ha)) (Nat.lt_succ_of_le hb)
  unfold tabA at h
  simp only [Bool.and_eq_true, beq_iff_eq, Bool.or_eq_true, decide_eq_true_eq] at h
  exact ⟨h.1.1, h.1.2, fun q => h.2.resolve_left (Nat.not_lt.mpr q)⟩
theorem max_F16 {a b : Nat} (ha : a ≤ 12) (hb : b ≤ 12) : (if ltF (F16 a) (F16 b) then F16 b else F16 a) = F16 (max a b) := by
  rw [(tabA_at ha hb).1]
  by_cases h : a < b
  · rw [if_pos (decide_eq_true h), Nat.max_eq_right (Nat.le_of_lt h)]
  · rw [if_neg (by simpa using h), Nat.max_eq_left (Nat.not_lt.mp h)]
theorem min_F16 {a b : Nat} (ha : a ≤ 12) (hb : b ≤ 12) : (if ltF (F16 b) (F16 a) then F16 b else F16 a) = F16 (min a b) := by
  rw [(tabA_at hb ha).1]
  by_cases h : b < a
  · rw [if_pos (decide_eq_true h), Nat.min_eq_right (Nat.le_of_lt h)]
  · rw [if_neg (by simpa using h), Nat.min_eq_left (Nat.not_lt.mp h)]
theorem fmax_F16 {a b c : Nat} (ha : a ≤ 12) (hb : b ≤ 12) (hc : c ≤ 12) : fmax3 (F16 a) (F16 b) (F16 c) = F16 (max (max a b) c) := by
  unfold fmax3
  rw [max_F16 ha hb, max_F16 (Nat.max_le.mpr ⟨ha, hb⟩) hc]
theorem fmin_F16 {a b c : Nat} (ha : a ≤ 12) (hb : b ≤ 12) (hc : c ≤ 12) : fmin3 (F16 a) (F16 b) (F16 c) = F16 (min (min a b) c) := by
  unfold fmin3
  rw [min_F16 ha hb, min_F16 (Nat.le_trans (Nat.min_le_left _ _) ha) hc]
theorem nearS_add (a b c k : Int) : nearS (a + k) (b + k) (c + k) = nearS a b c := by
  simp only [nearS, nearRow, List.map_cons, List.map_nil, Int.add_lt_add_iff_right]
theorem dn {P : Nat → Prop} {n : Nat} (t : P (n + 1)) (k : ∀ j, 1 ≤ j → j ≤ n → P j) : ∀ j, 1 ≤ j → j ≤ n + 1 → P j := fun j a b =>
  (Nat.lt_or_eq_of_le b).elim (fun h => k j a (Nat.le_of_lt_succ h)) fun e => e ▸ t
theorem tJ : ∀ j, 1 ≤ j → j ≤ 12 → chkJ j = true :=
  dn t12 (dn t11 (dn t10 (dn t9 (dn t8 (dn t7 (dn t6 (dn t5 (dn t4 (dn t3 (dn t2 (dn t1 fun _ a b => absurd (Nat.le_trans a b) (by decide))))))))))))
theorem chkJ_at {j x y z : Nat} (h1 : 1 ≤ j) (h2 : j ≤ 12) (hx : x ≤ j) (hy : y ≤ j) (hz : z ≤ j) (m0 : x = 0 ∨ y = 0 ∨ z = 0) (m1 : x = j ∨ y = j ∨ z = j) : chkH x y z j = true := by
  have h := all_get (all_get (all_get (tJ j h1 h2) (Nat.lt_succ_of_le hx)) (Nat.lt_succ_of_le hy)) (Nat.lt_succ_of_le hz)
  have e : ((x == 0 || y == 0 || z == 0) && (x == j || y == j || z == j)) = true := by
    simp only [Bool.and_eq_true, Bool.or_eq_true, beq_iff_eq]
    exact ⟨or_assoc.mpr m0, or_assoc.mpr m1⟩
  rw [e] at h
  exact h
theorem eq_sub {R M : Nat} (h : R ≤ M) : (R = M) = (M - R = 0) := propext ⟨fun e => e ▸ Nat.sub_self R, fun e => Nat.le_antisymm h (Nat.sub_eq_zero_iff_le.mp e)⟩
theorem hueM_D {R G B M m : Nat} (hR : R ≤ M) (hG : G ≤ M) (hB : B ≤ M) (hm : m ≤ M) (hM : M ≤ 12) : hueM (F16 R) (F16 G) (F16 B) (F16 M) (F16 m) = hueD (M - R) (M - G) (M - B) (M - m) := by
  unfold hueM hueD
  rw [(tabA_at (Nat.le_trans hR hM) hM).2.1, (tabA_at (Nat.le_trans hG hM) hM).2.1, (tabA_at hM (Nat.le_trans hR hM)).2.2 hR, (tabA_at hM (Nat.le_trans hG hM)).2.2 hG, (tabA_at hM (Nat.le_trans hB hM)).2.2 hB, (tabA_at hM (Nat.le_trans hm hM)).2.2 hm]
  simp only [decide_eq_true_eq, eq_sub hR, eq_sub hG]
theorem chkH_at {x y z j : Nat} (h : chkH x y z j = true) : ∃ pl : Int, Float64.isFinite (placeF (hueD x y z j)) = true ∧ Flt.toInt Float64.truncOf (placeF (hueD x y z j)) = pl ∧ 0 ≤ pl ∧ pl ≤ 166320 ∧ feq (hueD x y z j) (hueD x y z j) = true ∧ (lowW pl * j).fdiv 27720 = 2 * (j : Int) - x - y - z ∧ nearW pl = nearS (-((y : Int) + z)) (-((x : Int) + z)) (-((x : Int) + y)) := by
  unfold chkH at h
  dsimp only at h
  generalize hueD x y z j = hd at h ⊢
  generalize hq : placeF hd = q at h ⊢
  generalize hp : Flt.toInt Float64.truncOf q = pl at h ⊢
  simp only [Bool.and_eq_true, decide_eq_true_eq] at h
  exact ⟨pl, h.1.1.1.1.1, rfl, h.1.1.1.1.2, h.1.1.1.2, h.1.1.2, h.1.2, h.2⟩
theorem cast_sub {M m : Nat} (h : m ≤ M) : (M : Int) - m = ((M - m : Nat) : Int) := (Int.ofNat_sub h).symm
theorem mid_eq {R G B M m : Nat} (h1 : R ≤ M) (h2 : G ≤ M) (h3 : B ≤ M) (h4 : m ≤ M) : 2 * ((M - m : Nat) : Int) - ((M - R : Nat) : Int) - ((M - G : Nat) : Int) - ((M - B : Nat) : Int) = (R : Int) + G + B - M - 2 * m := by
  rw [Int.ofNat_sub h1, Int.ofNat_sub h2, Int.ofNat_sub h3, Int.ofNat_sub h4]; omega
theorem size_a {R G B M : Nat} (h2 : G ≤ M) (h3 : B ≤ M) : -(((M - G : Nat) : Int) + ((M - B : Nat) : Int)) + 2 * (M : Int) = size R G B 0 1 := by rw [Int.ofNat_sub h2, Int.ofNat_sub h3]; simp only [size, Int.mul_zero, Int.mul_one, Int.sub_zero, Int.sub_self, Int.zero_sub, Int.neg_mul_neg, Int.mul_neg, Int.neg_neg]; omega
theorem size_b {R G B M : Nat} (h1 : R ≤ M) (h3 : B ≤ M) : -(((M - R : Nat) : Int) + ((M - B : Nat) : Int)) + 2 * (M : Int) = size R G B 1 0 := by rw [Int.ofNat_sub h1, Int.ofNat_sub h3]; simp only [size, Int.mul_zero, Int.mul_one, Int.sub_zero, Int.sub_self, Int.zero_sub, Int.neg_mul_neg, Int.mul_neg, Int.neg_neg]; omega
theorem size_c {R G B M : Nat} (h1 : R ≤ M) (h2 : G ≤ M) : -(((M - R : Nat) : Int) + ((M - G : Nat) : Int)) + 2 * (M : Int) = size R G B 1 1 := by rw [Int.ofNat_sub h1, Int.ofNat_sub h2]; simp only [size, Int.mul_zero, Int.mul_one, Int.sub_zero, Int.sub_self, Int.zero_sub, Int.neg_mul_neg, Int.mul_neg, Int.neg_neg]; omega
theorem cmax (a b : Nat) : max (a : Int) (b : Int) = ((max a b : Nat) : Int) := by
  rcases Nat.le_total a b with h | h
  · rw [Nat.max_eq_right h, Int.max_eq_right (Int.ofNat_le.mpr h)]
  · rw [Nat.max_eq_left h, Int.max_eq_left (Int.ofNat_le.mpr h)]
theorem cmin (a b : Nat) : min (a : Int) (b : Int) = ((min a b : Nat) : Int) := by
  rcases Nat.le_total a b with h | h
  · rw [Nat.min_eq_left h, Int.min_eq_left (Int.ofNat_le.mpr h)]
  · rw [Nat.min_eq_right h, Int.min_eq_right (Int.ofNat_le.mpr h)]
theorem max_or (a b : Nat) : max a b = a ∨ max a b = b := (Nat.le_total a b).elim (fun h => .inr (Nat.max_eq_right h)) fun h => .inl (Nat.max_eq_left h)
theorem min_or (a b : Nat) : min a b = a ∨ min a b = b := (Nat.le_total a b).elim (fun h => .inl (Nat.min_eq_left h)) fun h => .inr (Nat.min_eq_right h)
theorem max3N (a b c : Nat) : ∃ M : Nat, max (max a b) c = M ∧ max (a : Int) (max (b : Int) (c : Int)) = M ∧ a ≤ M ∧ b ≤ M ∧ c ≤ M ∧ (M = a ∨ M = b ∨ M = c) :=
  ⟨max (max a b) c, rfl, by rw [cmax, cmax, Nat.max_assoc], Nat.le_trans (Nat.le_max_left a b) (Nat.le_max_left _ c), Nat.le_trans (Nat.le_max_right a b) (Nat.le_max_left _ c), Nat.le_max_right _ c,
    (max_or (max a b) c).elim (fun h => (max_or a b).imp (fun e => h.trans e) fun e => .inl (h.trans e)) fun h => .inr (.inr h)⟩
theorem min3N (a b c : Nat) : ∃ M : Nat, min (min a b) c = M ∧ min (a : Int) (min (b : Int) (c : Int)) = M ∧ M ≤ a ∧ M ≤ b ∧ M ≤ c ∧ (M = a ∨ M = b ∨ M = c) :=
  ⟨min (min a b) c, rfl, by rw [cmin, cmin, Nat.min_assoc], Nat.le_trans (Nat.min_le_left _ c) (Nat.min_le_left a b), Nat.le_trans (Nat.min_le_left _ c) (Nat.min_le_right a b), Nat.min_le_right _ c,
    (min_or (min a b) c).elim (fun h => (min_or a b).imp (fun e => h.trans e) fun e => .inl (h.trans e)) fun h => .inr (.inr h)⟩
theorem col_ok {r g b : Int} (hb : 0 ≤ r ∧ r ≤ 12 ∧ 0 ≤ g ∧ g ≤ 12 ∧ 0 ≤ b ∧ b ≤ 12) : ∃ pl : Int, HZ r g b ∧ feq (HUE r g b) (HUE r g b) = true ∧ Float64.isFinite (placeF (HUE r g b)) = true ∧ Flt.toInt Float64.truncOf (placeF (HUE r g b)) = pl ∧ 0 ≤ pl ∧ pl ≤ 166320 ∧
    Float64.isFinite (Float64.mul (Float64.ofInt 16) (VAL r g b)) = true ∧ Flt.toInt Float64.truncOf (Float64.mul (Float64.ofInt 16) (VAL r g b)) = max r (max g b) ∧
    Float64.isFinite (Float64.mul (Float64.ofInt 32) (LIT r g b)) = true ∧ Flt.toInt Float64.truncOf (Float64.mul (Float64.ofInt 32) (LIT r g b)) = max r (max g b) + min r (min g b) ∧
    (lowW pl * (max r (max g b) - min r (min g b))).fdiv 27720 = r + g + b - max r (max g b) - 2 * min r (min g b) ∧
    (max r (max g b) ≠ min r (min g b) → nearW pl = nearS (size r g b 0 1) (size r g b 1 0) (size r g b 1 1)) := by
  obtain ⟨R, rfl⟩ := Int.eq_ofNat_of_zero_le hb.1
  obtain ⟨G, rfl⟩ := Int.eq_ofNat_of_zero_le hb.2.2.1
  obtain ⟨B, rfl⟩ := Int.eq_ofNat_of_zero_le hb.2.2.2.2.1
  have bR : R ≤ 12 := Int.ofNat_le.mp hb.2.1
  have bG : G ≤ 12 := Int.ofNat_le.mp hb.2.2.2.1
  have bB : B ≤ 12 := Int.ofNat_le.mp hb.2.2.2.2.2
  clear hb
  have eV : VAL (R : Int) (G : Int) (B : Int) = F16 (max (max R G) B) := by
    unfold VAL; simp only [Int.toNat_natCast]; exact fmax_F16 bR bG bB
  have eL : LOW (R : Int) (G : Int) (B : Int) = F16 (min (min R G) B) := by
    unfold LOW; simp only [Int.toNat_natCast]; exact fmin_F16 bR bG bB
  have eH : HUE (R : Int) (G : Int) (B : Int) = hueP (F16 R) (F16 G) (F16 B) (F16 (max (max R G) B)) (F16 (min (min R G) B)) := by
    unfold HUE; simp only [Int.toNat_natCast]; rw [fmax_F16 bR bG bB, fmin_F16 bR bG bB]
  obtain ⟨M, hM, cM, l1, l2, l3, dM⟩ := max3N R G B
  obtain ⟨m, hm, cm, n1, n2, n3, dm⟩ := min3N R G B
  have bM : M ≤ 12 := by
    rcases dM with e | e | e
    · exact e ▸ bR
    · exact e ▸ bG
    · exact e ▸ bB
  have lm : m ≤ M := Nat.le_trans n1 l1
  have bm : m ≤ 12 := Nat.le_trans lm bM
  rw [hM] at eV eH
  rw [hm] at eL eH
  clear hM hm
  have TM := all_get tM (Nat.lt_succ_of_le bM)
  unfold tabM at TM
  simp only [Bool.and_eq_true, decide_eq_true_eq] at TM
  have TB := all_get (all_get tB (Nat.lt_succ_of_le bM)) (Nat.lt_succ_of_le bm)
  unfold tabB at TB
  simp only [Bool.and_eq_true, Bool.or_eq_true, decide_eq_true_eq, beq_iff_eq] at TB
  have TB' := TB.resolve_left (Nat.not_lt.mpr lm)
  have hLit : LIT (R : Int) (G : Int) (B : Int) = Float64.div (Float64.add (F16 M) (F16 m)) f2 := by unfold LIT; rw [eV, eL]
  rw [cM, cm, eV, hLit]
  have hz : HZ (R : Int) (G : Int) (B : Int) := by
    unfold HZ
    rw [eV, eL, (tabA_at bm bM).2.1]
    intro q
    have hne : ¬ M = m := fun e => by rw [e] at q; simp at q
    have := TB'.2.resolve_left hne
    exact ⟨this.1.1.1, this.1.1.2, this.1.2, this.2⟩
  by_cases heq : m = M
  · have e0 : HUE (R : Int) (G : Int) (B : Int) = f0 := by
      rw [eH]
      exact hueP_0 (by rw [(tabA_at bm bM).2.1]; exact decide_eq_true heq)
    have h0 := t0
    unfold chk0 at h0
    simp only [Bool.and_eq_true, decide_eq_true_eq] at h0
    rw [e0]
    refine ⟨0, hz, h0.2, h0.1.1, h0.1.2, Int.le_refl _, by decide, TM.1, TM.2, TB'.1.1, by rw [TB'.1.2], ?_, fun q => absurd (by rw [heq]) q⟩
    obtain ⟨z1, z2, z3⟩ : (R : Int) = M ∧ (G : Int) = M ∧ (B : Int) = M := ⟨congrArg _ (Nat.le_antisymm l1 (heq ▸ n1)), congrArg _ (Nat.le_antisymm l2 (heq ▸ n2)), congrArg _ (Nat.le_antisymm l3 (heq ▸ n3))⟩
    rw [z1, z2, z3, heq, Int.sub_self, Int.mul_zero]
    show (0 : Int) = _
    omega
  · have e0 : HUE (R : Int) (G : Int) (B : Int) = hueD (M - R) (M - G) (M - B) (M - m) := by
      rw [eH]
      unfold hueP
      rw [if_neg (by rw [(tabA_at bm bM).2.1]; simpa using heq)]
      exact hueM_D l1 l2 l3 lm bM
    have hc := chkJ_at (j := M - m) (x := M - R) (y := M - G) (z := M - B) (Nat.sub_pos_of_lt (Nat.lt_of_le_of_ne lm heq)) (Nat.le_trans (Nat.sub_le _ _) bM) (Nat.sub_le_sub_left n1 M) (Nat.sub_le_sub_left n2 M) (Nat.sub_le_sub_left n3 M) (by rcases dM with e | e | e <;> simp [e]) (by rcases dm with e | e | e <;> simp [e])
    obtain ⟨pl, k1, kp, k2, k3, k4, k5, k6⟩ := chkH_at hc
    rw [e0]
    refine ⟨pl, hz, k4, k1, kp, k2, k3, TM.1, TM.2, TB'.1.1, by rw [TB'.1.2], ?_, fun _ => ?_⟩
    · rw [cast_sub lm, k5]
      exact mid_eq l1 l2 l3 lm
    · rw [k6, ← nearS_add _ _ _ (2 * (M : Int)), size_a l2 l3, size_b l1 l3, size_c l1 l2]
end
example {w : World} {A : Around} {E Q : Value → Shared → Prop} {s : Shared} (h : wpAny (model PySem.Challenge.pw_qu0043_01 w) A (call (.ref 0) []) Q E s) : wpAny (model PySem.Challenge.pw_qu0043_01 w) A (call (.ref 0) []) Q E s := by w_top off; first | (walk1; fail) | exact h
section
-- part PM
/-- eight steps, every heap good; what is met -/
noncomputable def runM (r g b : Int) : Nat → List (List Int) × List (List Int) → Option (List (List Int))
  | 0, st => some st.2
  | n + 1, st => if goodS st.1 then runM r g b n (stepM r g b st) else none
theorem iterM_step (r g b : Int) (st : List (List Int) × List (List Int)) : ∀ j, iterM r g b j (stepM r g b st) = stepM r g b (iterM r g b j st)
  | 0 => rfl
  | j + 1 => by rw [iterM, iterM_step r g b st j]; rfl
theorem runM_ok {r g b : Int} : ∀ {n : Nat} {st : List (List Int) × List (List Int)} {es : List (List Int)}, runM r g b n st = some es → (∀ j, j < n → goodS (iterM r g b j st).1 = true) ∧ (iterM r g b n st).2 = es
  | 0, st, es, h => by
    cases h
    exact ⟨fun j hj => absurd hj (Nat.not_lt_zero _), rfl⟩
  | n + 1, st, es, h => by
    unfold runM at h
    split at h
    · rename_i hg
      obtain ⟨h1, h2⟩ := runM_ok h
      refine ⟨fun j hj => ?_, ?_⟩
      · cases j with
        | zero => exact hg
        | succ j =>
          have := h1 j (by omega)
          rw [iterM_step] at this
          exact this
      · rw [iterM_step] at h2
        exact h2
    · cases h
noncomputable def is5 : List Int → Bool
  | [_, _, _, _, _] => true
  | _ => false
noncomputable def upK : List (List Int) → Bool
  | e :: f :: r => decide (keyT e < keyT f) && upK (f :: r)
  | _ => true
noncomputable def chkE (r g b : Int) (es : List (List Int)) : Bool :=
  let lo := min r (min g b)
  let hi := max r (max g b)
  let mi := r + g + b - hi - lo
  decide (es.length = 8) && es.all is5 && decide ((es.take 3).map (fun e => e.headD 0) = [lo + mi, lo + hi, mi + hi]) &&
    (match es[7]? with
      | some [sz, x, y, u, v] => decide (x * v - y * u = 1 ∨ x * v - y * u = -1) && decide (-50 < x ∧ x < 50) && decide (-50 < y ∧ y < 50) && decide (-50 < u ∧ u < 50) && decide (-50 < v ∧ v < 50) &&
        (withinP es).isPerm ((boxP r g b 5).filter fun e => lexLe e [sz, x, y]) && upK (withinP es)
      | _ => false)
noncomputable def chkT (r g b : Int) : Bool := match runM r g b 8 (initM r g b) with
  | some es => chkE r g b es
  | none => false
noncomputable def two (r g b : Nat) : Bool := (decide (0 < r) && decide (0 < g)) || (decide (0 < r) && decide (0 < b)) || (decide (0 < g) && decide (0 < b))
noncomputable def chkR (r : Nat) : Bool := (List.range 13).all fun g => (List.range 13).all fun b => !two r g b || chkT r g b
end
example {w : World} {A : Around} {E Q : Value → Shared → Prop} {s : Shared} (h : wpAny (model PySem.Challenge.pw_qu0043_01 w) A (call (.ref 0) []) Q E s) : wpAny (model PySem.Challenge.pw_qu0043_01 w) A (call (.ref 0) []) Q E s := by w_top off; first | (walk1; fail) | exact h
section
-- part JN
/-- what the plain checks tell of the parts -/
structure PlainOK (r g b : Int) : Prop where
  good : ∀ j, j < 8 → goodS (iterM r g b j (initM r g b)).1 = true
  len : (metP r g b).length = 8
  five : ∀ e ∈ metP r g b, ∃ s x y u v, e = [s, x, y, u, v]
  three : ((metP r g b).take 3).map (fun e => e.headD 0) = [min r (min g b) + (r + g + b - max r (max g b) - min r (min g b)), min r (min g b) + max r (max g b), (r + g + b - max r (max g b) - min r (min g b)) + max r (max g b)]
  last : ∃ sz x y u v, (metP r g b)[7]? = some [sz, x, y, u, v] ∧ (x * v - y * u = 1 ∨ x * v - y * u = -1) ∧ (-50 < x ∧ x < 50) ∧ (-50 < y ∧ y < 50) ∧ (-50 < u ∧ u < 50) ∧ (-50 < v ∧ v < 50) ∧
    ∀ es' : List (List Int), es'.Perm (boxP r g b 5) → es'.Pairwise (fun e f => keyT e ≤ keyT f) → es'.filter (fun e => lexLe e [sz, x, y]) = withinP (metP r g b)
  box3 : ∀ e ∈ boxP r g b 5, Good3 e
  boxN : ((boxP r g b 5).map keyT).Nodup
  box2 : 2 ≤ (boxP r g b 5).length
  box64 : (boxP r g b 5).length < 64
theorem fmod_b (c : Int) {n : Int} (hn : 0 < n) : 0 ≤ c.fmod n ∧ c.fmod n < n := by
  rw [Int.fmod_eq_emod_of_nonneg _ (Int.le_of_lt hn)]
  exact ⟨Int.emod_nonneg _ (by omega), Int.emod_lt_of_pos _ hn⟩
theorem tabI0 : TabL 44 75 4 (qInner "_int2digits") [(44, tabObj #[])] := ⟨#[], [], rfl, fun _ h => (nomatch h), .inl rfl⟩
theorem tabD0 : TabL 51 90 4 (qInner "_digits2int") [(51, tabObj #[])] := ⟨#[], [], rfl, fun _ h => (nomatch h), .inl rfl⟩
theorem nearW_eq {pl a b c : Int} (h : nearW pl = nearS a b c) : nearRow [a, b, c] a = nearRow [wayP pl 0, wayP pl 55440, wayP pl 110880] (wayP pl 0) ∧ nearRow [a, b, c] b = nearRow [wayP pl 0, wayP pl 55440, wayP pl 110880] (wayP pl 55440) ∧ nearRow [a, b, c] c = nearRow [wayP pl 0, wayP pl 55440, wayP pl 110880] (wayP pl 110880) := by
  unfold nearW nearS at h
  simp only [List.map_cons, List.map_nil, List.cons.injEq, and_true] at h
  exact ⟨h.1.symm, h.2.1.symm, h.2.2.symm⟩
section
variable {r g b : Int} (h : 0 ≤ r ∧ r ≤ 12 ∧ 0 ≤ g ∧ g ≤ 12 ∧ 0 ≤ b ∧ b ≤ 12)
include h
theorem mxb : 0 ≤ max r (max g b) ∧ max r (max g b) ≤ 12 :=
  ⟨Int.le_trans h.1 (Int.le_max_left ..), Int.max_le.mpr ⟨h.2.1, Int.max_le.mpr ⟨h.2.2.2.1, h.2.2.2.2.2⟩⟩⟩
theorem smb : 0 ≤ max r (max g b) + min r (min g b) ∧ max r (max g b) + min r (min g b) ≤ 24 :=
  ⟨Int.add_nonneg (mxb h).1 (Int.le_min.mpr ⟨h.1, Int.le_min.mpr ⟨h.2.2.1, h.2.2.2.2.1⟩⟩), Int.add_le_add (mxb h).2 (Int.le_trans (Int.min_le_left ..) h.2.1)⟩
end
set_option maxRecDepth 100000 in
set_option maxHeartbeats 8000000 in
theorem lawAll {w : World} {s : Shared} {g : Heap} {p : Program} {loose : List Str} {mean : ExcName → Option Value} {mg mb : Str → Option Value} {Q : Flow → Shared → Prop} {e : Env} {L fa : Addr} {cd : Value}
    {m : Str → Option Value} {S : Addr} {vs : List Value} {ns : List Int} {om ow oz : Obj} (plain : ∀ r g b : Int, 0 ≤ r ∧ r ≤ 12 ∧ 0 ≤ g ∧ g ≤ 12 ∧ 0 ≤ b ∧ b ≤ 12 → ((0 < r ∧ 0 < g) ∨ (0 < r ∧ 0 < b) ∨ (0 < g ∧ 0 < b)) → PlainOK r g b)
    (X : (hd.heap_1 w.params).In g) (T : Top p loose mean mg mb g) (F : Fr g L s.heap m) (N : News g L s.heap ((L + 1 + 1 + 1, oz) :: (L + 1 + 1, ow) :: (L + 1, om) :: [(51, tabObj #[]), (44, tabObj #[])])) (hS : g.IsList S vs.toArray) (hi : IntsAre vs ns) (hn : ns.length ≤ 63) (e1 : m (Str.ofString "script") = some (.ref S))
    (dm : om.data = .cell none) (dw : ow.data = .cell none) (dz : oz.data = .cell none) (CI : CodeHd g 48 44) (CD : CodeHd g 55 51) (l51 : @LT.lt Nat _ 51 L) (l44 : @LT.lt Nat _ 44 L)
    (hQ : ∀ h' tk' tlI' tlD' rest, Sub g h' → TabL 44 75 4 (qInner "_int2digits") tlI' → TabL 51 90 4 (qInner "_digits2int") tlD' → News g L h' (rest ++ (tlI' ++ tlD')) → Q (.ret (.bool true)) { s with heap := h', toks := tk' }) :
    wpAny (model PG w) (callerA.deeper e) (execs (lawRest 0) (lawEnv L fa cd)) Q (fun _ _ => False) s := by
  have s1 : L < L + 1 := Nat.lt_succ_self _
  have s2 : L + 1 < L + 1 + 1 := Nat.lt_succ_self _
  have s3 : L + 1 + 1 < L + 1 + 1 + 1 := Nat.lt_succ_self _
  have ht : ∀ p ∈ ([(51, tabObj #[]), (44, tabObj #[])] : List (Addr × Obj)), p.1 < L := fun p hp => by
    rcases List.mem_cons.mp hp with rfl | hp
    · exact l51
    · rw [List.mem_singleton.mp hp]; exact l44
  generalize htb : ([(51, tabObj #[]), (44, tabObj #[])] : List (Addr × Obj)) = tabs at N ht
  refine lawA1 X T F N hS hi hn e1 ?_
  intro h1 k1 m1 C c0 c1 c2 t0 t1 t2 F1 N1 hC e2
  try dsimp only
  refine lawA2 X T F1 N1 hC e2 ?_
  intro h2 k2 m2 D d0 d1 d2 t u0 u1 u2 u3 F2 N2 hCD e3 e4 e5 q0 q1 q2 q3
  try dsimp only
  have f0 := fmod_b c0 (n := 12) (by decide)
  have f1 := fmod_b c1 (n := 12) (by decide)
  have f2 := fmod_b c2 (n := 13) (by decide)
  have f3 := fmod_b (c0.fdiv 12) (n := 3) (by decide)
  refine lawA3 X T F2 N2 hC hCD e3 e4 e5 (by omega) (by omega) (by omega) (by omega) ?_
  clear q0 q1 q2 q3 f0 f1 f2 f3 e3 e4 e5
  intro h3 k3 m3 P r gr b v0 v1 v2 F3 N3 hP e6 e7 hb
  try dsimp only
  have hb6 : 0 ≤ r ∧ r ≤ 12 ∧ 0 ≤ gr ∧ gr ≤ 12 ∧ 0 ≤ b ∧ b ≤ 12 := ⟨hb.1, hb.2.1, hb.2.2.1, hb.2.2.2.1, hb.2.2.2.2.1, hb.2.2.2.2.2.1⟩
  have h2p := hb.2.2.2.2.2.2
  have PL := plain r gr b hb6 h2p
  have hCz : L + 1 + 1 + 1 < C := hC _ (.head _)
  refine lawB X T F3 N3 hP hCz ht dm e6 e7 PL.good ?_
  intro h4 k4 M ms n tups om' F4 N4 dm' hMt hdis ha htd
  try dsimp only
  clear N N1 N2 N3 F F1 F2 F3
  obtain ⟨pl, cHZ, cEq, cF, cPl, cP0, cP1, cFM, cM, cFS, cS, cMid, cNear⟩ := col_ok hb6
  refine lawC (v0 := v0) (v1 := v1) (v2 := v2) (news := (M, listOf (List.toArray ms) n) :: (tups ++ (C, listOf #[.int c0 t0, .int c1 t1, .int c2 t2] 0) :: (L + 1 + 1 + 1, oz) :: (L + 1 + 1, ow) :: (L + 1, om') :: tabs)) X T F4 (News.sub N4 fun p hp => ?_) e7 hb6 cHZ ?_
  · revert p; walk_at "m me"
  intro h5 k5 m5 w1 w2 w3 w4 F5 N5 a1 a2 a3 a4 a5 a6
  try dsimp only
  have hPz : L + 1 + 1 + 1 < P := Nat.lt_trans hCz hP
  refine lawD (news := (M, listOf (List.toArray ms) n) :: (tups ++ (P, listOf #[.int r v0, .int gr v1, .int b v2] 0) :: (C, listOf #[.int c0 t0, .int c1 t1, .int c2 t2] 0) :: (L + 1 + 1 + 1, oz) :: (L + 1, om') :: tabs)) X T F5 (News.sub N5 fun p hp => ?_) (fun p hp => ?_) dw a3 a4 a6 cF cPl cP0 cP1 cFM cM cFS cS (mxb hb6) (smb hb6) ?_
  · revert p; walk_at "m me"
  · rcases List.mem_cons.mp hp with rfl | hp
    · exact (hdis _ (.head _)).2.2.2.1
    rcases List.mem_append.mp hp with h | hp
    · exact (hdis _ (.tail _ h)).2.2.2.1
    rcases List.mem_cons.mp hp with rfl | hp
    · exact Nat.ne_of_gt (Nat.lt_trans s3 hPz)
    rcases List.mem_cons.mp hp with rfl | hp
    · exact Nat.ne_of_gt (Nat.lt_trans s3 hCz)
    rcases List.mem_cons.mp hp with rfl | hp
    · exact Nat.ne_of_gt s3
    rcases List.mem_cons.mp hp with rfl | hp
    · exact Nat.ne_of_lt s2
    have h := hp
    exact Nat.ne_of_lt (Nat.lt_trans (ht p h) (Nat.lt_trans s1 s2))
  intro h6 k6 m6 W ws kW ow' x1 x2 x3 F6 N6 hW hW2 hws dw' b1 b2 b3 bm
  try dsimp only
  have hm6 : ∀ z, z ∈ [Str.ofString "parts", Str.ofString "cells", Str.ofString "hue", Str.ofString "again"] → m6 z = m5 z := bm
  have g1 : m6 (Str.ofString "parts") = some (.ref P) := (hm6 _ (by walk_at "m mm")).trans a1
  have g2 : m6 (Str.ofString "cells") = some (.ref C) := ((hm6 _ (by walk_at "m mm")).trans a2).trans e6
  have g3 : m6 (Str.ofString "hue") = some (.float (HUE r gr b) w1) := (hm6 _ (by walk_at "m mm")).trans a3
  have g4 : m6 (Str.ofString "again") = some (.float (HUE r gr b) w3) := (hm6 _ (by walk_at "m mm")).trans a5
  have z1 : max r (max gr b) + min r (min gr b) - max r (max gr b) = min r (min gr b) := by rw [Int.add_comm, Int.add_sub_cancel]
  rw [z1] at b2 b3
  have z2 : min r (min gr b) + (low3 (wayP pl 0) (wayP pl 55440) (wayP pl 110880) * (max r (max gr b) - min r (min gr b))).fdiv 27720 = r + gr + b - max r (max gr b) - min r (min gr b) := by
    have : (low3 (wayP pl 0) (wayP pl 55440) (wayP pl 110880) * (max r (max gr b) - min r (min gr b))).fdiv 27720 = r + gr + b - max r (max gr b) - 2 * min r (min gr b) := cMid
    rw [this]; omega
  rw [z2] at b3
  clear F4 N4 F5 N5 a1 a2 a3 a4 a5 a6 bm hm6 e6 e7
  obtain ⟨n6, hn6⟩ : ∃ n6, n6 = (W, listOf (List.toArray ws) kW) :: (L + 1 + 1, ow') :: (M, listOf (List.toArray ms) n) :: (tups ++ (P, listOf #[.int r v0, .int gr v1, .int b v2] 0) :: (C, listOf #[.int c0 t0, .int c1 t1, .int c2 t2] 0) :: (L + 1 + 1 + 1, oz) :: (L + 1, om') :: tabs) := ⟨_, rfl⟩
  have N6' : News g L h6 n6 := by rw [hn6]; exact N6
  have iM : (M, listOf (List.toArray ms) n) ∈ n6 := by rw [hn6]; walk_at "m mm"
  have iP : (P, listOf #[.int r v0, .int gr v1, .int b v2] 0) ∈ n6 := by rw [hn6]; walk_at "m mm"
  have iC : (C, listOf #[.int c0 t0, .int c1 t1, .int c2 t2] 0) ∈ n6 := by rw [hn6]; walk_at "m mm"
  have im : (L + 1, om') ∈ n6 := by rw [hn6]; walk_at "m mm"
  have iT : ∀ p ∈ tups, p ∈ n6 := fun p hp => by rw [hn6]; walk_at "m mm"
  have iB : ∀ p ∈ tabs, p ∈ n6 := fun p hp => by rw [hn6]; walk_at "m mm"
  refine lawE (M := M) (n := n) (nw := n6) (tups := tups) X T F6 (News.sub N6' fun p hp => ?_) iT dm' ha PL.len PL.five PL.three g3 g4 cEq b1 b2 b3 ?_
  · rcases List.mem_cons.mp hp with rfl | hp
    · exact iM
    rcases List.mem_cons.mp hp with rfl | hp
    · exact im
    have h := hp
    exact h
  intro h7 k7 F7 N7
  try dsimp only
  refine lawF (P := P) (r := r) (gr := gr) (b := b) (v0 := v0) (v1 := v1) (v2 := v2) (nw := (W, listOf (List.toArray ws) kW) :: (L + 1 + 1, ow') :: (M, listOf (List.toArray ms) n) :: (tups ++ (C, listOf #[.int c0 t0, .int c1 t1, .int c2 t2] 0) :: (L + 1, om') :: tabs)) (oz := oz) X T F7 (News.sub N7 fun p hp => .tail _ (.tail _ ?_)) (fun p hp => ?_) (Nat.ne_of_gt hPz) dz g1 ?_
  · show p ∈ n6
    rw [hn6]
    revert p; walk_at "m me"
  · rcases List.mem_cons.mp hp with rfl | hp
    · exact Ne.symm (hW (L + 1 + 1 + 1, oz) (by walk_at "m mm"))
    rcases List.mem_cons.mp hp with rfl | hp
    · exact Nat.ne_of_lt s3
    rcases List.mem_cons.mp hp with rfl | hp
    · exact (hdis _ (.head _)).2.2.1
    rcases List.mem_append.mp hp with h | hp
    · exact (hdis _ (.tail _ h)).2.2.1
    rcases List.mem_cons.mp hp with rfl | hp
    · exact Nat.ne_of_gt hCz
    rcases List.mem_cons.mp hp with rfl | hp
    · exact Nat.ne_of_lt (Nat.lt_trans s2 s3)
    have h := hp
    exact Nat.ne_of_lt (Nat.lt_trans (ht p h) (Nat.lt_trans s1 (Nat.lt_trans s2 s3)))
  intro h8 k8 Z j1 j2 j3 oz' F8 N8 dz' hZ1 hZ2 hZ3
  try dsimp only
  clear F6 N6 N6' F7 N7 hn6 iM iP iC im iT iB
  obtain ⟨n8, hn8⟩ : ∃ n8, n8 = (Z, listOf #[.int (size r gr b 0 1) j1, .int (size r gr b 1 0) j2, .int (size r gr b 1 1) j3] 0) :: (L + 1 + 1 + 1, oz') :: (P, listOf #[.int r v0, .int gr v1, .int b v2] 0) :: (W, listOf (List.toArray ws) kW) :: (L + 1 + 1, ow') :: (M, listOf (List.toArray ms) n) :: (tups ++ (C, listOf #[.int c0 t0, .int c1 t1, .int c2 t2] 0) :: (L + 1, om') :: tabs) := ⟨_, rfl⟩
  have N8' : News g L h8 n8 := by rw [hn8]; exact N8
  have iM : (M, listOf (List.toArray ms) n) ∈ n8 := by rw [hn8]; walk_at "m mm"
  have iP : (P, listOf #[.int r v0, .int gr v1, .int b v2] 0) ∈ n8 := by rw [hn8]; walk_at "m mm"
  have iC : (C, listOf #[.int c0 t0, .int c1 t1, .int c2 t2] 0) ∈ n8 := by rw [hn8]; walk_at "m mm"
  have im : (L + 1, om') ∈ n8 := by rw [hn8]; walk_at "m mm"
  have iZ : (Z, listOf #[.int (size r gr b 0 1) j1, .int (size r gr b 1 0) j2, .int (size r gr b 1 1) j3] 0) ∈ n8 := by rw [hn8]; walk_at "m mm"
  have iz : (L + 1 + 1 + 1, oz') ∈ n8 := by rw [hn8]; walk_at "m mm"
  have iW : (W, listOf (List.toArray ws) kW) ∈ n8 := by rw [hn8]; walk_at "m mm"
  have iw : (L + 1 + 1, ow') ∈ n8 := by rw [hn8]; walk_at "m mm"
  have iT : ∀ p ∈ tups, p ∈ n8 := fun p hp => by rw [hn8]; walk_at "m mm"
  have iB : ∀ p ∈ tabs, p ∈ n8 := fun p hp => by rw [hn8]; walk_at "m mm"
  refine lawG (W := W) (kW := kW) (nw := n8) X T F8 (News.sub N8' fun p hp => ?_) dw' hws ?_
  · rcases List.mem_cons.mp hp with rfl | hp
    · exact iW
    rcases List.mem_cons.mp hp with rfl | hp
    · exact iw
    have h := hp
    exact h
  intro h9 k9 D9 l1 l2 l3 kd kd1 kd2 kd3 F9 N9
  try dsimp only
  refine lawH (D := D9) (a1 := l1) (a2 := l2) (a3 := l3) (k := kd) (k1 := kd1) (k2 := kd2) (k3 := kd3) (nw := n8) (oz := oz') (Z := Z) (zs := [.int (size r gr b 0 1) j1, .int (size r gr b 1 0) j2, .int (size r gr b 1 1) j3]) (kZ := 0) X T F9 (News.sub N9 fun p hp => ?_) (.cons _ _ (.cons _ _ (.cons _ _ .nil))) dz' rfl b1 b2 ⟨rfl, rfl, rfl⟩ (fun q => nearW_eq (cNear q)) ?_
  · revert p; walk_at "m me"
  intro h10 k10 F10 N10
  try dsimp only
  clear N8 N8' F8 F9 N9 hn8
  refine lawI (P := P) (r := r) (gr := gr) (b := b) (v0 := v0) (v1 := v1) (v2 := v2) (nw := n8) X T F10 (News.sub N10 fun p hp => ?_) (by exact g1) ?_
  · rcases List.mem_cons.mp hp with rfl | h
    · exact iP
    · exact h
  intro h11 k11 m11 B bs nb add F11 N11 hbs hbl y1 y2
  try dsimp only
  have K11 : ∀ p ∈ n8, p ∈ (B, listOf (List.toArray bs) nb) :: (add ++ (P, listOf #[.int r v0, .int gr v1, .int b v2] 0) :: n8) := fun p hp => .tail _ (List.mem_append_right _ (.tail _ hp))
  refine lawJ (M := M) (n := n) (tups := tups) X T F11 N11 (K11 _ iM) (K11 _ im) (fun p hp => K11 p (iT p hp)) dm' ha PL.len PL.five ?_
  intro h12 k12 Wt yt kt n12 F12 N12 hyt K12 hWt hyl
  try dsimp only
  have K : ∀ p ∈ n8, p ∈ (Wt, listOf (List.toArray yt) kt) :: n12 := fun p hp => .tail _ (K12 p (K11 p hp))
  obtain ⟨sz, x, y, u, v, hl7, hdet, bx, by', bu, bv, hpl⟩ := PL.last
  have haK : All2 (TupN ((Wt, listOf (List.toArray yt) kt) :: n12)) ms (metP r gr b) := ha.mono fun v xs => TupN.mono fun p hp => K p (iT p hp)
  refine lawK (M := M) (n := n) (B := B) (W := Wt) (bs := bs) (ws := yt) (nb := nb) (nW := kt) (box := boxP r gr b 5) (win := withinP (metP r gr b)) X T F12 N12 (K _ iM) (K _ im) dm' (.tail _ (K12 _ (.head _))) (.head _) haK (hbs.mono fun v xs => TupN.mono fun p hp => .tail _ (K12 p (.tail _ (List.mem_append_left _ hp)))) (hyt.mono fun v xs => TupN.mono fun p hp => .tail _ hp) PL.len hl7 rfl (by exact y1) PL.box3 PL.boxN PL.box2 PL.box64 hpl ?_
  intro h13 k13 F13 N13
  try dsimp only
  have y3 : ∀ z, z ≠ Str.ofString "within" → z ≠ Str.ofString "box" → ¬ exXY z → z ≠ Str.ofString "nearer" → (fun z => if z = Str.ofString "within" then some (Value.ref Wt) else m11 z) z = m6 z := fun z c1 c2 c3 c4 => ((if_neg c1).trans (y2 z c2 c3)).trans (if_neg c4)
  refine lawL1 (M := M) (n := n) (c0 := c0) (c1 := c1) (c2 := c2) (t0 := t0) (t1 := t1) (t2 := t2) X T F13 (News.sub N13 fun p hp => ?_) (K _ iM) (K _ im) dm' haK PL.len hl7 ((y3 _ (by decide) (by decide) (by unfold exXY; decide) (by decide)).trans g2) bx by' bu bv ?_
  · rcases List.mem_cons.mp hp with rfl | h
    · exact K _ iC
    · exact h
  intro h14 k14 m14 D14 to fro o1 o2 o3 o4 o5 F14 N14 p1 p2 p3 p4 bto bfro p5
  try dsimp only
  have pP : m14 (Str.ofString "parts") = some (.ref P) := ((p5 _ (by walk_at "m mm")).trans (y3 _ (by decide) (by decide) (by unfold exXY; decide) (by decide))).trans g1
  have pL : m14 (Str.ofString "least") = some (.int (min r (min gr b)) x2) := ((p5 _ (by walk_at "m mm")).trans (y3 _ (by decide) (by decide) (by unfold exXY; decide) (by decide))).trans b2
  have pM : m14 (Str.ofString "most") = some (.int (max r (max gr b)) x1) := ((p5 _ (by walk_at "m mm")).trans (y3 _ (by decide) (by decide) (by unfold exXY; decide) (by decide))).trans b1
  have pD : m14 (Str.ofString "middle") = some (.int (r + gr + b - max r (max gr b) - min r (min gr b)) x3) := ((p5 _ (by walk_at "m mm")).trans (y3 _ (by decide) (by decide) (by unfold exXY; decide) (by decide))).trans b3
  have f1 := abs_mul (A := 500) (B := 50) bto (show -50 ≤ u ∧ u ≤ 50 by omega)
  have f2 := abs_mul (A := 500) (B := 50) bto (show -50 ≤ v ∧ v ≤ 50 by omega)
  refine lawL2 (q3 := o3) (q4 := o4) (nw := (Wt, listOf (List.toArray yt) kt) :: n12) (fx := x + to * u) (fy := y + to * v) (fro := fro) (u := u) (v := v) (D := D14) (P := P) (v0 := v0) (v1 := v1) (v2 := v2) (r := r) (gr := gr) (b := b) X T F14 (News.sub N14 fun p hp => ?_) p1 p2 p3 p4 pP bu bv bfro (by omega) (by omega) ?_
  · rcases List.mem_cons.mp hp with rfl | h
    · exact .head _
    · rcases List.mem_cons.mp h with rfl | h
      · exact .tail _ (K _ iP)
      · exact .tail _ h
  intro h15 k15 m15 lx ly r1 r2 r3 hlx hly F15 N15 n1 n2 n3 n4
  try dsimp only
  have f3 := prod_b bfro (show -30000 < x + to * u ∧ x + to * u < 30000 by omega)
  have f4 := prod_b bfro (show -30000 < y + to * v ∧ y + to * v < 30000 by omega)
  refine lawM (tlI := [(44, tabObj #[])]) (tlD := [(51, tabObj #[])]) (x := x) (y := y) (u := u) (v := v) (to := to) (fro := fro) X T F15 (News.sub N15 fun p hp => ?_) CI CD tabI0 tabD0 (fun p hp => by rw [List.mem_singleton.mp hp]; decide) n1 n2 n3 ((n4 _ (by walk_at "m mm")).trans pL) ((n4 _ (by walk_at "m mm")).trans pM) ((n4 _ (by walk_at "m mm")).trans pD) hb6 h2p hdet rfl rfl hlx hly (by omega) (by omega) (by omega) (by omega) (by omega) rfl rfl hQ
  · refine K p (iB p ?_)
    rw [← htb]
    simp only [List.mem_append, List.mem_cons, List.not_mem_nil, or_false] at hp ⊢
    rcases hp with rfl | rfl <;> simp
end
example {w : World} {A : Around} {E Q : Value → Shared → Prop} {s : Shared} (h : wpAny (model PySem.Challenge.pw_qu0043_01 w) A (call (.ref 0) []) Q E s) : wpAny (model PySem.Challenge.pw_qu0043_01 w) A (call (.ref 0) []) Q E s := by w_top off; first | (walk1; fail) | exact h
end Mine
-- part FIN
namespace Mine
theorem tabL_at {P : Addr} {ln col : Nat} {q : Str} {tl : List (Addr × Obj)} {g h : Heap} {L : Addr} {a b : List (Addr × Obj)} (t : TabL P ln col q tl) (N : News g L h (a ++ (tl ++ b))) : GrownAt P h := by
  obtain ⟨ps, cs, rfl, _⟩ := t
  exact GrownAt.of N (List.mem_append_right _ (List.mem_append_left _ (List.mem_cons_self ..)))
set_option maxRecDepth 100000 in
set_option maxHeartbeats 8000000 in
theorem fin (plain : ∀ r g b : Int, 0 ≤ r ∧ r ≤ 12 ∧ 0 ≤ g ∧ g ≤ 12 ∧ 0 ≤ b ∧ b ≤ 12 → ((0 < r ∧ 0 < g) ∨ (0 < r ∧ 0 < b) ∨ (0 < g ∧ 0 < b)) → PlainOK r g b) : PySem.Challenge.rw_qu0043_01.Holds := hd (by
  k_go0
  rename_i l0
  refine wpAny_mono (lawAll plain (w := _) (by assumption) (by assumption) (by assumption) (by assumption) (by assumption) (by assumption) ?hn ?e1 ?dm ?dw ?dz ?CI ?CD ?l51 ?l44 ?hQ) (fun _ _ x => x) (fun _ _ x => x.elim)
  case hn => omega
  case e1 => rfl
  case dm => assumption
  case dw => assumption
  case dz => assumption
  case CI => assumption
  case CD => assumption
  case l51 => omega
  case l44 => omega
  case hQ =>
    intro h' tk' tlI' tlD' rest S' tI tD N'
    refine ⟨⟨.inl ⟨_, .bool true, [], rfl, raisesW_false ?za, ReadsW.bool _, ?zb, ?zc⟩, ?zd, rfl, ?ze⟩, ?zf⟩
    case za => wrow_none_raised
    case zb => wrow_post
    case zc => exact unshared_nil
    case zd => exact S'
    case ze => assumption
    case zf => exact ⟨tabL_at (a := rest ++ tlI') (b := []) tD (by simpa using N'), tabL_at tI N', True.intro⟩)
end Mine
-- part PN
namespace Mine
/-- an entry read back from its number -/
noncomputable def decN : Nat → List Int
  | 0 => []
  | n + 1 => [((n / 1024 / 1024 / 1024 / 1024 : Nat) : Int), ((n / 1024 / 1024 / 1024 % 1024 : Nat) : Int) - 512, ((n / 1024 / 1024 % 1024 : Nat) : Int) - 512, ((n / 1024 % 1024 : Nat) : Int) - 512, ((n % 1024 : Nat) : Int) - 512]
noncomputable def dec3 (c : Nat) : List Int := [((c / 1024 / 1024 : Nat) : Int), ((c / 1024 % 1024 : Nat) : Int) - 512, ((c % 1024 : Nat) : Int) - 512]
theorem cI {x y : Nat} : ((x : Int) = y) = (x = y) := propext Int.ofNat_inj
theorem cL {x y : Nat} : ((x : Int) < y) = (x < y) := propext Int.ofNat_lt
theorem sI {x y : Nat} : ((x : Int) - 512 = y - 512) = (x = y) := propext ⟨fun h => Int.ofNat_inj.mp (by rw [← Int.sub_add_cancel (x : Int) 512, h, Int.sub_add_cancel]), fun h => by rw [h]⟩
theorem sL {x y : Nat} : ((x : Int) - 512 < y - 512) = (x < y) := propext (by omega)
theorem cLe {x y : Nat} : ((x : Int) ≤ y) = (x ≤ y) := propext Int.ofNat_le
theorem sLe {x y : Nat} : ((x : Int) - 512 ≤ y - 512) = (x ≤ y) := propext (by omega)
theorem ltD (a b : Nat) : (a < b) = (a / 1024 < b / 1024 ∨ (a / 1024 = b / 1024 ∧ a % 1024 < b % 1024)) := propext (by omega)
theorem eqD (a b : Nat) : (a = b) = (a / 1024 = b / 1024 ∧ a % 1024 = b % 1024) := propext ⟨fun e => e ▸ ⟨rfl, rfl⟩, fun h => by rw [← Nat.div_add_mod a 1024, h.1, h.2, Nat.div_add_mod]⟩
theorem lt_decN : ∀ a b : Nat, Nat.blt a b = lexLt (decN a) (decN b)
  | 0, 0 => rfl
  | 0, _ + 1 => by simp [Nat.blt, decN, lexLt, Nat.ble]
  | _ + 1, 0 => by simp [Nat.blt, decN, lexLt, Nat.ble]
  | a + 1, b + 1 => by
    have e : Nat.blt (a + 1) (b + 1) = decide (a < b) := by
      rw [Bool.eq_iff_iff, decide_eq_true_eq]
      simp [Nat.blt, Nat.ble_eq]; omega
    rw [e]
    simp only [decN, lexLt]
    simp only [cI, cL, sI, sL]
    rw [Bool.eq_iff_iff, decide_eq_true_eq, ltD a b, ltD (a / 1024) (b / 1024), ltD (a / 1024 / 1024) (b / 1024 / 1024), ltD (a / 1024 / 1024 / 1024) (b / 1024 / 1024 / 1024), eqD (a / 1024) (b / 1024), eqD (a / 1024 / 1024) (b / 1024 / 1024), eqD (a / 1024 / 1024 / 1024) (b / 1024 / 1024 / 1024)]
    generalize a / 1024 / 1024 / 1024 / 1024 = a4, b / 1024 / 1024 / 1024 / 1024 = b4, a / 1024 / 1024 / 1024 % 1024 = a3, b / 1024 / 1024 / 1024 % 1024 = b3
    generalize a / 1024 / 1024 % 1024 = a2, b / 1024 / 1024 % 1024 = b2, a / 1024 % 1024 = a1, b / 1024 % 1024 = b1, a % 1024 = a0, b % 1024 = b0
    by_cases h4 : a4 = b4
    · subst h4
      by_cases h3 : a3 = b3
      · subst h3
        by_cases h2 : a2 = b2
        · subst h2
          by_cases h1 : a1 = b1
          · subst h1
            by_cases h0 : a0 = b0
            · subst h0; simp
            · simp [h0]
          · simp [h1]
        · simp [h2]
      · simp [h3]
    · simp [h4]
theorem le_dec3 (a b : Nat) : lexLe (dec3 a) (dec3 b) = Nat.ble a b := by
  rw [Bool.eq_iff_iff, Nat.ble_eq]
  simp only [dec3, lexLe, cI, sI, cLe, sLe]
  rw [show (a ≤ b) = ¬ (b < a) from propext Nat.not_lt.symm, ltD b a, ltD (b / 1024) (a / 1024), eqD (b / 1024) (a / 1024)]
  generalize a / 1024 / 1024 = a2, b / 1024 / 1024 = b2, a / 1024 % 1024 = a1, b / 1024 % 1024 = b1, a % 1024 = a0, b % 1024 = b0
  by_cases h2 : a2 = b2
  · subst h2
    by_cases h1 : a1 = b1
    · subst h1
      by_cases h0 : a0 = b0
      · subst h0; simp
      · simp [h0, Nat.not_lt]
    · simp [h1, Ne.symm h1, Nat.not_lt]
  · simp [h2, Ne.symm h2, Nat.not_lt]
noncomputable def sizeN (r g b X Y : Nat) : Nat := r * ((X - 512) * (X - 512) + (512 - X) * (512 - X)) + g * ((Y - 512) * (Y - 512) + (512 - Y) * (512 - Y)) + b * ((X - Y) * (X - Y) + (Y - X) * (Y - X))
theorem sq_abs (X : Nat) (c : Nat) : (((X - c) * (X - c) + (c - X) * (c - X) : Nat) : Int) = ((X : Int) - c) * ((X : Int) - c) := by
  rcases Nat.le_total c X with h | h
  · have h1 : c - X = 0 := by omega
    have h2 : ((X - c : Nat) : Int) = (X : Int) - c := by omega
    rw [h1, Int.natCast_add, Int.natCast_mul, h2]; simp
  · have h1 : X - c = 0 := by omega
    have h2 : ((c - X : Nat) : Int) = (c : Int) - X := by omega
    rw [h1, Int.natCast_add, Int.natCast_mul, Int.natCast_mul, h2]
    have : (X : Int) - c = -((c : Int) - X) := by omega
    rw [this, Int.neg_mul_neg]; simp
theorem sizeN_eq (r g b X Y : Nat) : ((sizeN r g b X Y : Nat) : Int) = size r g b ((X : Int) - 512) ((Y : Int) - 512) := by
  have h1 := sq_abs X 512
  have h2 := sq_abs Y 512
  have h3 := sq_abs X Y
  unfold sizeN size
  rw [Int.natCast_add, Int.natCast_add, Int.natCast_mul r, Int.natCast_mul g, Int.natCast_mul b, h1, h2, h3]
  have e : (X : Int) - 512 - ((Y : Int) - 512) = (X : Int) - Y := by omega
  rw [e, Int.mul_assoc, Int.mul_assoc, Int.mul_assoc]
  rfl
noncomputable def packN (r g b X Y U V : Nat) : Nat := ((((sizeN r g b X Y * 1024 + X) * 1024 + Y) * 1024 + U) * 1024 + V) + 1
theorem dm1 (a : Nat) {c : Nat} (h : c < 1024) : (a * 1024 + c) / 1024 = a := by
  rw [Nat.add_comm, Nat.add_mul_div_right _ _ (by decide), Nat.div_eq_of_lt h, Nat.zero_add]
theorem dm2 (a : Nat) {c : Nat} (h : c < 1024) : (a * 1024 + c) % 1024 = c := by
  rw [Nat.add_comm, Nat.add_mul_mod_self_right, Nat.mod_eq_of_lt h]
theorem dec_pack {r g b X Y U V : Nat} {x y u v : Int} (hX : (X : Int) = x + 512) (hY : (Y : Int) = y + 512) (hU : (U : Int) = u + 512) (hV : (V : Int) = v + 512) (bX : X < 1024) (bY : Y < 1024) (bU : U < 1024) (bV : V < 1024) :
    decN (packN r g b X Y U V) = entry r g b [x, y, u, v] := by
  have hs := sizeN_eq r g b X Y
  have e1 : (X : Int) - 512 = x := by rw [hX, Int.add_sub_cancel]
  have e2 : (Y : Int) - 512 = y := by rw [hY, Int.add_sub_cancel]
  have e3 : (U : Int) - 512 = u := by rw [hU, Int.add_sub_cancel]
  have e4 : (V : Int) - 512 = v := by rw [hV, Int.add_sub_cancel]
  rw [e1, e2] at hs
  unfold packN
  generalize sizeN r g b X Y = S at hs
  simp only [decN, entry4, dm1 _ bV, dm2 _ bV, dm1 _ bU, dm2 _ bU, dm1 _ bY, dm2 _ bY, dm1 _ bX, dm2 _ bX, hs, e1, e2, e3, e4]
/-- an entry's coordinates are small -/
noncomputable def okc : Nat → Bool
  | 0 => false
  | n + 1 => Nat.blt 462 (n % 1024) && Nat.blt (n % 1024) 562 && (Nat.blt 462 (n / 1024 % 1024) && Nat.blt (n / 1024 % 1024) 562) && (Nat.blt 462 (n / 1024 / 1024 % 1024) && Nat.blt (n / 1024 / 1024 % 1024) 562) &&
    (Nat.blt 462 (n / 1024 / 1024 / 1024 % 1024) && Nat.blt (n / 1024 / 1024 / 1024 % 1024) 562)
noncomputable def offN (r g b : Nat) (P : List Nat) (X Y U V : Nat) : List Nat :=
  bif Nat.beq U 512 && Nat.beq V 512 then P else hpush Nat.blt 0 (hpush Nat.blt 0 P (packN r g b (X + U - 512) (Y + V - 512) U V)) (packN r g b (2 * X - U) (2 * Y - V) (X + 512 - U) (Y + 512 - V))
noncomputable def stepN (r g b : Nat) : List Nat → List Nat
  | (n + 1) :: es => offN r g b (sup Nat.blt 0 (es.getLastD 0 :: es.dropLast) 0) (n / 1024 / 1024 / 1024 % 1024) (n / 1024 / 1024 % 1024) (n / 1024 % 1024) (n % 1024)
  | _ => []
theorem getLastD_map {α β : Type} (f : α → β) (d : α) : ∀ xs : List α, (xs.map f).getLastD (f d) = f (xs.getLastD d)
  | [] => rfl
  | [_] => rfl
  | _ :: y :: r => by simpa using getLastD_map f d (y :: r)
section
variable {a b : Nat}
theorem eAdd (h : 462 < a ∧ a < 562) (k : 462 < b ∧ b < 562) : ((a + b - 512 : Nat) : Int) = (a : Int) - 512 + ((b : Int) - 512) + 512 := by
  rw [Int.ofNat_sub (Nat.le_trans (by decide) (Nat.add_le_add h.1 k.1))]; omega
theorem bAdd (h : 462 < a ∧ a < 562) (k : 462 < b ∧ b < 562) : a + b - 512 < 1024 := by omega
theorem eTw (h : 462 < a ∧ a < 562) (k : 462 < b ∧ b < 562) : ((2 * a - b : Nat) : Int) = 2 * ((a : Int) - 512) - ((b : Int) - 512) + 512 := by
  rw [Int.ofNat_sub (Nat.le_trans (Nat.le_of_lt k.2) (Nat.le_trans (by decide) (Nat.mul_le_mul_left 2 h.1)))]; omega
theorem bTw (h : 462 < a ∧ a < 562) (k : 462 < b ∧ b < 562) : 2 * a - b < 1024 := by omega
theorem eSb (h : 462 < a ∧ a < 562) (k : 462 < b ∧ b < 562) : ((a + 512 - b : Nat) : Int) = (a : Int) - 512 - ((b : Int) - 512) + 512 := by
  rw [Int.ofNat_sub (Nat.le_trans (Nat.le_of_lt k.2) (Nat.le_trans (by decide) (Nat.add_le_add_right h.1 512)))]; omega
theorem bSb (h : 462 < a ∧ a < 562) (k : 462 < b ∧ b < 562) : a + 512 - b < 1024 := by omega
theorem b24 (h : 462 < a ∧ a < 562) : a < 1024 := Nat.lt_trans h.2 (by decide)
theorem eId : (a : Int) = (a : Int) - 512 + 512 := (Int.sub_add_cancel _ _).symm
end
theorem stepN_ok {r g b : Nat} {e : Nat} {es : List Nat} {M : List (List Int)} (h : okc e = true) :
    stepM r g b ((e :: es).map decN, M) = ((stepN r g b (e :: es)).map decN, M ++ [decN e]) := by
  cases e with
  | zero => cases h
  | succ n =>
    simp only [okc, Bool.and_eq_true, Nat.blt_eq] at h
    obtain ⟨⟨⟨hV, hU⟩, hY⟩, hX⟩ := h
    have hp : sup lexLt [] ((es.map decN).getLastD [] :: (es.map decN).dropLast) 0 = (sup Nat.blt 0 (es.getLastD 0 :: es.dropLast) 0).map decN := by
      rw [sup_map (lt' := lexLt) lt_decN, List.map_cons, ← getLastD_map decN 0 es]
      first | (rw [List.map_dropLast]; rfl) | (rw [← List.map_dropLast]; rfl)
    show ((if _ then _ else _), _) = _
    simp only [List.map_cons, popP]
    rw [hp]
    simp only [stepN]
    generalize sup Nat.blt 0 (es.getLastD 0 :: es.dropLast) 0 = P
    generalize hX' : n / 1024 / 1024 / 1024 % 1024 = X at hX
    generalize hY' : n / 1024 / 1024 % 1024 = Y at hY
    generalize hU' : n / 1024 % 1024 = U at hU
    generalize hV' : n % 1024 = V at hV
    have he : decN (n + 1) = [((n / 1024 / 1024 / 1024 / 1024 : Nat) : Int), (X : Int) - 512, (Y : Int) - 512, (U : Int) - 512, (V : Int) - 512] := by
      simp only [decN, hX', hY', hU', hV']
    rw [he]
    clear hX' hY' hU' hV' he
    unfold offN
    by_cases h0 : U = 512 ∧ V = 512
    · rw [if_pos (by omega), h0.1, h0.2]; rfl
    · rw [if_neg (by omega)]
      have : (Nat.beq U 512 && Nat.beq V 512) = false := by
        rw [Bool.eq_false_iff]; intro z; simp only [Bool.and_eq_true, Nat.beq_eq] at z; exact h0 z
      rw [this, cond_false, hpush_map (lt' := lexLt) lt_decN, hpush_map (lt' := lexLt) lt_decN]
      rw [dec_pack (x := (X : Int) - 512 + ((U : Int) - 512)) (y := (Y : Int) - 512 + ((V : Int) - 512)) (u := (U : Int) - 512) (v := (V : Int) - 512) (eAdd hX hU) (eAdd hY hV) eId eId (bAdd hX hU) (bAdd hY hV) (Nat.lt_trans hU.2 (by decide)) (Nat.lt_trans hV.2 (by decide))]
      rw [dec_pack (x := 2 * ((X : Int) - 512) - ((U : Int) - 512)) (y := 2 * ((Y : Int) - 512) - ((V : Int) - 512)) (u := (X : Int) - 512 - ((U : Int) - 512)) (v := (Y : Int) - 512 - ((V : Int) - 512)) (eTw hX hU) (eTw hY hV) (eSb hX hU) (eSb hY hV) (bTw hX hU) (bTw hY hV) (bSb hX hU) (bSb hY hV)]
      rfl
noncomputable def goodH (T : List Nat) : Bool := Nat.ble 2 T.length && Nat.blt T.length 100 && T.all (Nat.blt 0)
noncomputable def runN (r g b : Nat) : Nat → List Nat → Option (List Nat)
  | 0, _ => some []
  | _ + 1, [] => none
  | k + 1, e :: es => bif goodH (e :: es) && okc e then
      (match runN r g b k (stepN r g b (e :: es)) with
        | some l => some (e :: l)
        | none => none) else none
theorem goodD (d : Nat) : -1000 < ((d % 1024 : Nat) : Int) - 512 ∧ ((d % 1024 : Nat) : Int) - 512 < 1000 := by omega
theorem goodT_dec : ∀ {n : Nat}, Nat.blt 0 n = true → goodT (decN n) = true
  | 0, h => by cases h
  | n + 1, _ => by
    simp only [decN, goodT, Bool.and_eq_true, decide_eq_true_eq]
    exact ⟨⟨⟨⟨⟨⟨⟨(goodD _).1, (goodD _).2⟩, (goodD _).1⟩, (goodD _).2⟩, (goodD _).1⟩, (goodD _).2⟩, (goodD _).1⟩, (goodD _).2⟩
theorem goodH_ok {T : List Nat} (h : goodH T = true) : goodS (T.map decN) = true := by
  simp only [goodH, Bool.and_eq_true, Nat.blt_eq, Nat.ble_eq, List.all_eq_true] at h
  simp only [goodS, Bool.and_eq_true, decide_eq_true_eq, List.all_eq_true, List.length_map]
  refine ⟨h.1, fun x hx => ?_⟩
  obtain ⟨n, hn, rfl⟩ := List.mem_map.mp hx
  exact goodT_dec (by simpa using h.2 n hn)
theorem runN_ok {r g b : Nat} : ∀ {k : Nat} {T : List Nat} {M : List (List Int)} {l : List Nat}, runN r g b k T = some l →
    (∀ j, j < k → goodS (iterM r g b j (T.map decN, M)).1 = true) ∧ (iterM r g b k (T.map decN, M)).2 = M ++ l.map decN ∧ l.length = k ∧ ∀ n ∈ l, okc n = true
  | 0, T, M, l, h => by
    cases h
    exact ⟨fun j hj => absurd hj (Nat.not_lt_zero _), by simp [iterM], rfl, fun n hn => nomatch hn⟩
  | k + 1, [], M, l, h => by cases h
  | k + 1, e :: es, M, l, h => by
    unfold runN at h
    cases hc : goodH (e :: es) && okc e with
    | false => rw [hc, cond_false] at h; cases h
    | true =>
      rw [hc, cond_true] at h
      rw [Bool.and_eq_true] at hc
      split at h
      · rename_i l' hl
        cases h
        obtain ⟨h1, h2, h3, h4⟩ := runN_ok (M := M ++ [decN e]) hl
        rw [← stepN_ok (M := M) hc.2] at h1 h2
        refine ⟨fun j hj => ?_, ?_, by rw [List.length_cons, h3], fun n hn => ?_⟩
        · cases j with
          | zero => exact goodH_ok hc.1
          | succ j =>
            have := h1 j (by omega)
            rw [iterM_step] at this
            exact this
        · rw [iterM_step] at h2
          show (stepM r g b (iterM r g b k _)).2 = _
          rw [h2]; simp
        · rcases List.mem_cons.mp hn with rfl | hn
          · exact hc.2
          · exact h4 n hn
      · cases h
noncomputable def startN (r g b : Nat) : List Nat := [packN r g b 512 513 512 512, packN r g b 513 512 512 512, packN r g b 513 513 512 512, packN r g b 511 513 512 513, packN r g b 513 514 512 513, packN r g b 514 513 513 512]
theorem start_ok (r g b : Nat) : (startN r g b).map decN = starts.map (entry r g b) := by
  simp only [startN, starts, List.map_cons, List.map_nil]
  rw [dec_pack (x := 0) (y := 1) (u := 0) (v := 0) (by decide) (by decide) (by decide) (by decide) (by decide) (by decide) (by decide) (by decide),
    dec_pack (x := 1) (y := 0) (u := 0) (v := 0) (by decide) (by decide) (by decide) (by decide) (by decide) (by decide) (by decide) (by decide),
    dec_pack (x := 1) (y := 1) (u := 0) (v := 0) (by decide) (by decide) (by decide) (by decide) (by decide) (by decide) (by decide) (by decide),
    dec_pack (x := -1) (y := 1) (u := 0) (v := 1) (by decide) (by decide) (by decide) (by decide) (by decide) (by decide) (by decide) (by decide),
    dec_pack (x := 1) (y := 2) (u := 0) (v := 1) (by decide) (by decide) (by decide) (by decide) (by decide) (by decide) (by decide) (by decide),
    dec_pack (x := 2) (y := 1) (u := 1) (v := 0) (by decide) (by decide) (by decide) (by decide) (by decide) (by decide) (by decide) (by decide)]
noncomputable def metN (r g b : Nat) : Option (List Nat) := runN r g b 8 (hfyN Nat.blt 0 (startN r g b) 3)
theorem metN_ok {r g b : Nat} {l : List Nat} (h : metN r g b = some l) :
    (∀ j, j < 8 → goodS (iterM r g b j (initM r g b)).1 = true) ∧ metP r g b = l.map decN ∧ l.length = 8 ∧ ∀ n ∈ l, okc n = true := by
  have hi : ((hfyN Nat.blt 0 (startN r g b) 3).map decN, ([] : List (List Int))) = initM r g b := by
    unfold initM
    rw [hfyN_map (lt' := lexLt) lt_decN, start_ok]
    rfl
  have z := runN_ok (M := []) h
  rw [hi] at z
  exact ⟨z.1, z.2.1.trans (List.nil_append _), z.2.2.1, z.2.2.2⟩
end Mine
-- part PF
namespace Mine
noncomputable def getN (l : List Nat) : Nat → Nat := List.rec (motive := fun _ => Nat → Nat) (fun _ => nat_lit 0) (fun a _ ih i => Nat.rec (motive := fun _ => Nat) a (fun j _ => ih j) i) l
noncomputable def setN (x : Nat) (l : List Nat) : Nat → List Nat := List.rec (motive := fun _ => Nat → List Nat) (fun _ => []) (fun a t ih i => Nat.rec (motive := fun _ => List Nat) (x :: t) (fun j _ => a :: ih j) i) l
noncomputable def lenN (l : List Nat) : Nat := List.rec (motive := fun _ => Nat) (nat_lit 0) (fun _ _ ih => Nat.succ ih) l
noncomputable def snocN (x : Nat) (l : List Nat) : List Nat := List.rec (motive := fun _ => List Nat) [x] (fun a _ ih => a :: ih) l
theorem getN_eq : ∀ (l : List Nat) (i : Nat), getN l i = l.getD i 0
  | [], _ => rfl
  | _ :: _, 0 => rfl
  | _ :: l, i + 1 => by
    rw [List.getD_cons_succ, ← getN_eq l i]; rfl
theorem setN_eq (x : Nat) : ∀ (l : List Nat) (i : Nat), setN x l i = l.set i x
  | [], _ => rfl
  | _ :: _, 0 => rfl
  | a :: l, i + 1 => by
    rw [List.set_cons_succ, ← setN_eq x l i]; rfl
theorem lenN_eq : ∀ l : List Nat, lenN l = l.length
  | [] => rfl
  | _ :: l => by rw [List.length_cons, ← lenN_eq l]; rfl
theorem snocN_eq (x : Nat) : ∀ l : List Nat, snocN x l = l ++ [x]
  | [] => rfl
  | _ :: l => by rw [List.cons_append, ← snocN_eq x l]; rfl
noncomputable def sdF (x st k : Nat) : List Nat → Nat → List Nat :=
  Nat.rec (motive := fun _ => List Nat → Nat → List Nat) (fun xs pos => setN x xs pos)
    (fun _ ih xs pos => bif Nat.blt st pos then (bif Nat.blt x (getN xs (Nat.div (Nat.sub pos (nat_lit 1)) (nat_lit 2))) then ih (setN (getN xs (Nat.div (Nat.sub pos (nat_lit 1)) (nat_lit 2))) xs pos) (Nat.div (Nat.sub pos (nat_lit 1)) (nat_lit 2)) else setN x xs pos) else setN x xs pos) k
theorem sdF_eq (x st : Nat) : ∀ (k : Nat) (xs : List Nat) (pos : Nat), sdF x st k xs pos = sdLoop Nat.blt 0 x st k xs pos
  | 0, xs, pos => setN_eq x xs pos
  | k + 1, xs, pos => by
    show (bif Nat.blt st pos then (bif Nat.blt x (getN xs ((pos - 1) / 2)) then sdF x st k (setN (getN xs ((pos - 1) / 2)) xs pos) ((pos - 1) / 2) else setN x xs pos) else setN x xs pos) = _
    rw [sdF_eq x st k]
    simp only [sdLoop, getN_eq, setN_eq, cond_eq_ite, Nat.blt_eq]
noncomputable def suF (st x0 len k : Nat) : List Nat → Nat → List Nat :=
  Nat.rec (motive := fun _ => List Nat → Nat → List Nat) (fun xs q => sdF (getN (setN x0 xs q) q) st q (setN x0 xs q) q)
    (fun _ ih xs pos => bif Nat.blt (Nat.add (Nat.mul (nat_lit 2) pos) (nat_lit 1)) len then
      (bif Nat.blt (Nat.add (Nat.mul (nat_lit 2) pos) (nat_lit 2)) len && !Nat.blt (getN xs (Nat.add (Nat.mul (nat_lit 2) pos) (nat_lit 1))) (getN xs (Nat.add (Nat.mul (nat_lit 2) pos) (nat_lit 2))) then ih (setN (getN xs (Nat.add (Nat.mul (nat_lit 2) pos) (nat_lit 2))) xs pos) (Nat.add (Nat.mul (nat_lit 2) pos) (nat_lit 2))
        else ih (setN (getN xs (Nat.add (Nat.mul (nat_lit 2) pos) (nat_lit 1))) xs pos) (Nat.add (Nat.mul (nat_lit 2) pos) (nat_lit 1)))
      else sdF (getN (setN x0 xs pos) pos) st pos (setN x0 xs pos) pos) k
theorem suF_eq (st x0 : Nat) : ∀ (k : Nat) (xs : List Nat) (pos : Nat), suF st x0 xs.length k xs pos = sdown Nat.blt 0 ((suLoop Nat.blt 0 k xs pos).1.set (suLoop Nat.blt 0 k xs pos).2 x0) st (suLoop Nat.blt 0 k xs pos).2
  | 0, xs, pos => by
    show sdF (getN (setN x0 xs pos) pos) st pos (setN x0 xs pos) pos = _
    rw [sdF_eq, getN_eq, setN_eq]; rfl
  | k + 1, xs, pos => by
    show (bif Nat.blt (2 * pos + 1) xs.length then
      (bif Nat.blt (2 * pos + 2) xs.length && !Nat.blt (getN xs (2 * pos + 1)) (getN xs (2 * pos + 2)) then suF st x0 xs.length k (setN (getN xs (2 * pos + 2)) xs pos) (2 * pos + 2)
        else suF st x0 xs.length k (setN (getN xs (2 * pos + 1)) xs pos) (2 * pos + 1))
      else sdF (getN (setN x0 xs pos) pos) st pos (setN x0 xs pos) pos) = _
    have h1 := suF_eq st x0 k (xs.set pos (xs.getD (2 * pos + 2) 0)) (2 * pos + 2)
    have h2 := suF_eq st x0 k (xs.set pos (xs.getD (2 * pos + 1) 0)) (2 * pos + 1)
    rw [List.length_set] at h1 h2
    rw [sdF_eq]
    simp only [getN_eq, setN_eq]
    rw [h1, h2]
    simp only [suLoop, cond_eq_ite, Nat.blt_eq]
    by_cases c1 : 2 * pos + 1 < xs.length
    · rw [if_pos c1, if_pos c1]
      have e : ∀ x y : Bool, (decide (2 * pos + 2 < xs.length) && x) = (Nat.blt (2 * pos + 2) xs.length && x) := fun x _ => by
        congr 1
        rw [Bool.eq_iff_iff, decide_eq_true_eq, Nat.blt_eq]
      rw [e _ true]
      by_cases c2 : (Nat.blt (2 * pos + 2) xs.length && !Nat.blt (xs.getD (2 * pos + 1) 0) (xs.getD (2 * pos + 2) 0)) = true
      · rw [if_pos c2, if_pos c2]
      · rw [if_neg c2, if_neg c2]
    · rw [if_neg c1, if_neg c1]; rfl
noncomputable def supF (xs : List Nat) (pos : Nat) : List Nat := suF pos (getN xs pos) (lenN xs) (lenN xs) xs pos
theorem supF_eq (xs : List Nat) (pos : Nat) : supF xs pos = sup Nat.blt 0 xs pos := by
  unfold supF
  rw [lenN_eq, suF_eq, getN_eq]; rfl
noncomputable def pushF (xs : List Nat) (x : Nat) : List Nat := sdF x 0 (lenN xs) (snocN x xs) (lenN xs)
theorem pushF_eq (xs : List Nat) (x : Nat) : pushF xs x = hpush Nat.blt 0 xs x := by
  unfold pushF hpush sdown
  rw [sdF_eq, snocN_eq, lenN_eq]
  have : (xs ++ [x]).getD xs.length 0 = x := by simp
  rw [this]
noncomputable def packF (r g b X Y U V : Nat) : Nat :=
  Nat.succ (Nat.add (Nat.mul (Nat.add (Nat.mul (Nat.add (Nat.mul (Nat.add (Nat.mul (Nat.add (Nat.add
    (Nat.mul r (Nat.add (Nat.mul (Nat.sub X (nat_lit 512)) (Nat.sub X (nat_lit 512))) (Nat.mul (Nat.sub (nat_lit 512) X) (Nat.sub (nat_lit 512) X))))
    (Nat.mul g (Nat.add (Nat.mul (Nat.sub Y (nat_lit 512)) (Nat.sub Y (nat_lit 512))) (Nat.mul (Nat.sub (nat_lit 512) Y) (Nat.sub (nat_lit 512) Y)))))
    (Nat.mul b (Nat.add (Nat.mul (Nat.sub X Y) (Nat.sub X Y)) (Nat.mul (Nat.sub Y X) (Nat.sub Y X))))) (nat_lit 1024)) X) (nat_lit 1024)) Y) (nat_lit 1024)) U) (nat_lit 1024)) V)
theorem packF_eq (r g b X Y U V : Nat) : packF r g b X Y U V = packN r g b X Y U V := rfl
noncomputable def offF (r g b : Nat) (P : List Nat) (X Y U V : Nat) : List Nat :=
  bif Nat.beq U (nat_lit 512) && Nat.beq V (nat_lit 512) then P else pushF (pushF P (packF r g b (Nat.sub (Nat.add X U) (nat_lit 512)) (Nat.sub (Nat.add Y V) (nat_lit 512)) U V)) (packF r g b (Nat.sub (Nat.mul (nat_lit 2) X) U) (Nat.sub (Nat.mul (nat_lit 2) Y) V) (Nat.sub (Nat.add X (nat_lit 512)) U) (Nat.sub (Nat.add Y (nat_lit 512)) V))
theorem offF_eq (r g b : Nat) (P : List Nat) (X Y U V : Nat) : offF r g b P X Y U V = offN r g b P X Y U V := by
  unfold offF
  rw [pushF_eq, pushF_eq]; rfl
/-- the list without its last, and the last -/
noncomputable def initF (l : List Nat) : Nat → List Nat := List.rec (motive := fun _ => Nat → List Nat) (fun _ => []) (fun a _ ih x => x :: ih a) l
noncomputable def lastF (l : List Nat) : Nat → Nat := List.rec (motive := fun _ => Nat → Nat) (fun x => x) (fun a _ ih _ => ih a) l
theorem initF_eq : ∀ (l : List Nat) (x : Nat), initF l x = (x :: l).dropLast
  | [], _ => rfl
  | a :: l, x => by
    rw [List.dropLast_cons_of_ne_nil (by simp), ← initF_eq l a]; rfl
theorem lastF_eq : ∀ (l : List Nat) (x : Nat), lastF l x = l.getLastD x
  | [], _ => rfl
  | a :: l, x => by
    show lastF l a = _
    rw [lastF_eq l a]
    first | done | (cases l <;> rfl)
noncomputable def tailF (es : List Nat) : List Nat := List.rec (motive := fun _ => List Nat) [] (fun a t _ => initF t a) es
theorem tailF_eq (es : List Nat) : tailF es = es.dropLast := by
  cases es with
  | nil => rfl
  | cons a t => exact initF_eq t a
noncomputable def posF (l : List Nat) : Bool := List.rec (motive := fun _ => Bool) true (fun a _ ih => Nat.blt (nat_lit 0) a && ih) l
theorem posF_eq : ∀ l : List Nat, posF l = l.all (Nat.blt 0)
  | [] => rfl
  | a :: l => by rw [List.all_cons, ← posF_eq l]; rfl
noncomputable def goodF (l : List Nat) : Bool := Nat.ble (nat_lit 2) (lenN l) && Nat.blt (lenN l) (nat_lit 100) && posF l
theorem goodF_eq (l : List Nat) : goodF l = goodH l := by
  unfold goodF goodH
  rw [lenN_eq, posF_eq]
/-- the small coordinates, and then -/
noncomputable def okF (X Y U V : Nat) : Bool := Nat.blt (nat_lit 462) V && Nat.blt V (nat_lit 562) && (Nat.blt (nat_lit 462) U && Nat.blt U (nat_lit 562)) && (Nat.blt (nat_lit 462) Y && Nat.blt Y (nat_lit 562)) && (Nat.blt (nat_lit 462) X && Nat.blt X (nat_lit 562))
/-- one step with the machine's rest behind it -/
noncomputable def turnF (r g b n : Nat) (es : List Nat) (X Y U V : Nat) (k : List Nat → Option (List Nat)) : Option (List Nat) :=
  bif goodF (n :: es) && okF X Y U V then Option.rec (motive := fun _ => Option (List Nat)) none (fun l => some (n :: l)) (k (offF r g b (supF (lastF es (nat_lit 0) :: tailF es) (nat_lit 0)) X Y U V)) else none
noncomputable def popF (r g b n : Nat) (es : List Nat) (k : List Nat → Option (List Nat)) : Option (List Nat) :=
  Nat.rec (motive := fun _ => Option (List Nat)) none (fun m _ => turnF r g b (Nat.succ m) es (Nat.mod (Nat.div (Nat.div (Nat.div m (nat_lit 1024)) (nat_lit 1024)) (nat_lit 1024)) (nat_lit 1024)) (Nat.mod (Nat.div (Nat.div m (nat_lit 1024)) (nat_lit 1024)) (nat_lit 1024)) (Nat.mod (Nat.div m (nat_lit 1024)) (nat_lit 1024)) (Nat.mod m (nat_lit 1024)) k) n
noncomputable def runF (r g b k : Nat) : List Nat → Option (List Nat) :=
  Nat.rec (motive := fun _ => List Nat → Option (List Nat)) (fun _ => some []) (fun _ ih T => List.rec (motive := fun _ => Option (List Nat)) none (fun n es _ => popF r g b n es ih) T) k
theorem runF_eq (r g b : Nat) : ∀ (k : Nat) (T : List Nat), runF r g b k T = runN r g b k T
  | 0, _ => rfl
  | k + 1, [] => rfl
  | k + 1, 0 :: es => by
    unfold runN
    rw [show okc 0 = false from rfl, Bool.and_false]; rfl
  | k + 1, (n + 1) :: es => by
    show turnF r g b (n + 1) es (n / 1024 / 1024 / 1024 % 1024) (n / 1024 / 1024 % 1024) (n / 1024 % 1024) (n % 1024) (runF r g b k) = _
    unfold turnF
    rw [offF_eq, supF_eq, goodF_eq, lastF_eq, tailF_eq]
    unfold runN
    rw [runF_eq r g b k]
    show (bif goodH ((n + 1) :: es) && okc (n + 1) then _ else none) = _
    simp only [stepN]
    cases goodH ((n + 1) :: es) && okc (n + 1) with
    | false => rfl
    | true =>
      simp only [cond_true]
      cases runN r g b k (offN r g b (sup Nat.blt 0 (es.getLastD 0 :: es.dropLast) 0) (n / 1024 / 1024 / 1024 % 1024) (n / 1024 / 1024 % 1024) (n / 1024 % 1024) (n % 1024)) <;> rfl
noncomputable def heapF (r g b : Nat) : List Nat := supF (supF (supF [packF r g b 512 513 512 512, packF r g b 513 512 512 512, packF r g b 513 513 512 512, packF r g b 511 513 512 513, packF r g b 513 514 512 513, packF r g b 514 513 513 512] 2) 1) 0
theorem heapF_eq (r g b : Nat) : heapF r g b = hfyN Nat.blt 0 (startN r g b) 3 := by
  unfold heapF
  rw [supF_eq, supF_eq, supF_eq]; rfl
noncomputable def metF (r g b : Nat) : Option (List Nat) := runF r g b 8 (heapF r g b)
theorem metF_eq (r g b : Nat) : metF r g b = metN r g b := by
  unfold metF metN
  rw [runF_eq, heapF_eq]
end Mine
-- part PC
namespace Mine
noncomputable def POS : List Nat := [525824, 520705, 521729, 522753, 523777, 524801, 525825, 526849, 527873, 528897, 521730, 523778, 525826, 527874, 520707, 522755, 523779, 525827, 526851, 528899, 521732, 523780, 525828, 527876]
noncomputable def dec3' (r g b : Int) (p : Nat) : List Int := [size r g b ((p / 1024 : Nat) - 512) ((p % 1024 : Nat) - 512), (p / 1024 : Nat) - 512, (p % 1024 : Nat) - 512]
set_option maxRecDepth 100000 in
theorem box_eq (r g b : Int) : boxP r g b 5 = POS.map (dec3' r g b) := by rfl
noncomputable def codeF (r g b p : Nat) : Nat := Nat.add (Nat.mul (Nat.add (Nat.add
    (Nat.mul r (Nat.add (Nat.mul (Nat.sub (Nat.div p (nat_lit 1024)) (nat_lit 512)) (Nat.sub (Nat.div p (nat_lit 1024)) (nat_lit 512))) (Nat.mul (Nat.sub (nat_lit 512) (Nat.div p (nat_lit 1024))) (Nat.sub (nat_lit 512) (Nat.div p (nat_lit 1024))))))
    (Nat.mul g (Nat.add (Nat.mul (Nat.sub (Nat.mod p (nat_lit 1024)) (nat_lit 512)) (Nat.sub (Nat.mod p (nat_lit 1024)) (nat_lit 512))) (Nat.mul (Nat.sub (nat_lit 512) (Nat.mod p (nat_lit 1024))) (Nat.sub (nat_lit 512) (Nat.mod p (nat_lit 1024)))))))
    (Nat.mul b (Nat.add (Nat.mul (Nat.sub (Nat.div p (nat_lit 1024)) (Nat.mod p (nat_lit 1024))) (Nat.sub (Nat.div p (nat_lit 1024)) (Nat.mod p (nat_lit 1024)))) (Nat.mul (Nat.sub (Nat.mod p (nat_lit 1024)) (Nat.div p (nat_lit 1024))) (Nat.sub (Nat.mod p (nat_lit 1024)) (Nat.div p (nat_lit 1024))))))) (nat_lit 1048576)) p
theorem codeF_eq (r g b p : Nat) : codeF r g b p = sizeN r g b (p / 1024) (p % 1024) * 1048576 + p := rfl
theorem dec3_code {r g b p : Nat} (hp : p < 1048576) : dec3 (codeF r g b p) = dec3' r g b p := by
  rw [codeF_eq]
  have hs := sizeN_eq r g b (p / 1024) (p % 1024)
  generalize sizeN r g b (p / 1024) (p % 1024) = S at hs
  unfold dec3 dec3'
  have e : S * 1048576 + p = (S * 1024 + p / 1024) * 1024 + p % 1024 := by omega
  rw [← hs, e, dm1 _ (Nat.mod_lt p (by decide)), dm2 _ (Nat.mod_lt p (by decide)), dm1 _ (Nat.div_lt_of_lt_mul hp), dm2 _ (Nat.div_lt_of_lt_mul hp)]
theorem POS_small : ∀ p ∈ POS, p < 1048576 := by decide
theorem box_dec (r g b : Nat) : boxP r g b 5 = (POS.map (codeF r g b)).map dec3 := by
  rw [box_eq, List.map_map]
  exact List.map_congr_left fun p hp => (dec3_code (POS_small p hp)).symm
theorem box_3 (r g b : Int) : ∀ e ∈ boxP r g b 5, Good3 e := by
  rw [box_eq]
  intro e he
  obtain ⟨p, hp, rfl⟩ := List.mem_map.mp he
  have : ∀ p ∈ POS, -50 < ((p / 1024 : Nat) : Int) - 512 ∧ ((p / 1024 : Nat) : Int) - 512 < 50 ∧ -50 < ((p % 1024 : Nat) : Int) - 512 ∧ ((p % 1024 : Nat) : Int) - 512 < 50 := by decide
  exact ⟨_, _, _, rfl, this p hp⟩
theorem box_nd (r g b : Int) : ((boxP r g b 5).map keyT).Nodup := by
  rw [box_eq, List.map_map]
  have z : POS.Pairwise fun p q => (((p / 1024 : Nat) : Int) - 512 + 50) * 100 + (((p % 1024 : Nat) : Int) - 512 + 50) ≠ (((q / 1024 : Nat) : Int) - 512 + 50) * 100 + (((q % 1024 : Nat) : Int) - 512 + 50) ∧
      0 ≤ (((p / 1024 : Nat) : Int) - 512 + 50) * 100 + (((p % 1024 : Nat) : Int) - 512 + 50) ∧ (((p / 1024 : Nat) : Int) - 512 + 50) * 100 + (((p % 1024 : Nat) : Int) - 512 + 50) < 10000 ∧
      0 ≤ (((q / 1024 : Nat) : Int) - 512 + 50) * 100 + (((q % 1024 : Nat) : Int) - 512 + 50) ∧ (((q / 1024 : Nat) : Int) - 512 + 50) * 100 + (((q % 1024 : Nat) : Int) - 512 + 50) < 10000 := by decide +kernel
  refine List.pairwise_map.mpr (z.imp ?_)
  rintro p q ⟨h1, h2, h3, h4, h5⟩ h
  simp only [Function.comp, dec3', keyT3] at h
  generalize size r g b (((p / 1024 : Nat) : Int) - 512) (((p % 1024 : Nat) : Int) - 512) = S at h
  generalize size r g b (((q / 1024 : Nat) : Int) - 512) (((q % 1024 : Nat) : Int) - 512) = S' at h
  omega
theorem box_len (r g b : Int) : (boxP r g b 5).length = 24 := by rw [box_eq]; rfl
theorem perm_sorted_eq {α : Type} (k : α → Int) : ∀ {a b : List α}, a.Perm b → a.Pairwise (fun x y => k x ≤ k y) → b.Pairwise (fun x y => k x < k y) → a = b
  | a, [], h, _, _ => h.eq_nil
  | [], _ :: _, h, _, _ => by simp at h
  | x :: a, y :: b, h, ha, hb => by
    have hxy : x = y := by
      rcases List.mem_cons.mp (h.mem_iff.mp (List.mem_cons_self ..)) with e | hx
      · exact e
      · rcases List.mem_cons.mp (h.mem_iff.mpr (List.mem_cons_self ..)) with e | hy
        · exact e.symm
        · have h1 := (List.pairwise_cons.mp hb).1 x hx
          have h2 := (List.pairwise_cons.mp ha).1 y hy
          omega
    subst hxy
    rw [perm_sorted_eq k (List.perm_cons x |>.mp h) (List.pairwise_cons.mp ha).2 (List.pairwise_cons.mp hb).2]
theorem perm_of_sub : ∀ {F W : List Nat}, F.Nodup → (∀ a ∈ F, a ∈ W) → W.length ≤ F.length → F.Perm W
  | [], W, _, _, hl => by
    cases W with
    | nil => exact .refl _
    | cons _ _ => simp at hl
  | a :: F, W, hn, hs, hl => by
    have ha := hs a (List.mem_cons_self ..)
    have hn' := List.nodup_cons.mp hn
    refine .trans (.cons a (perm_of_sub (W := W.erase a) hn'.2 (fun x hx => ?_) ?_)) (List.perm_cons_erase ha).symm
    · have hne : x ≠ a := fun e => hn'.1 (e ▸ hx)
      exact (List.mem_erase_of_ne hne).mpr (hs x (.tail _ hx))
    · rw [List.length_erase_of_mem ha]
      rw [List.length_cons] at hl
      omega
noncomputable def keyF (n : Nat) : Nat := Nat.div (Nat.div (Nat.pred n) (nat_lit 1024)) (nat_lit 1024)
noncomputable def inF (n : Nat) : Bool := Nat.blt (Nat.mod (keyF n) (nat_lit 1024)) (nat_lit 517) && (Nat.blt (nat_lit 507) (Nat.mod (Nat.div (keyF n) (nat_lit 1024)) (nat_lit 1024)) && Nat.blt (Nat.mod (Nat.div (keyF n) (nat_lit 1024)) (nat_lit 1024)) (nat_lit 517))
noncomputable def withF (M : List Nat) : List Nat := List.rec (motive := fun _ => List Nat) [] (fun a _ ih => bif inF a then keyF a :: ih else ih) M
noncomputable def upF (W : List Nat) : Nat → Bool := List.rec (motive := fun _ => Nat → Bool) (fun _ => true) (fun a _ ih p => Nat.blt p a && ih a) W
noncomputable def memF (c : Nat) (W : List Nat) : Bool := List.rec (motive := fun _ => Bool) false (fun a _ ih => Nat.beq c a || ih) W
noncomputable def boxF (r g b lk : Nat) (W P : List Nat) : Nat → Bool := List.rec (motive := fun _ => Nat → Bool) (fun n => Nat.beq n (lenN W)) (fun p _ ih n => bif Nat.ble (codeF r g b p) lk then (memF (codeF r g b p) W && ih (Nat.succ n)) else ih n) P
theorem memF_ok {c : Nat} : ∀ {W : List Nat}, memF c W = true → c ∈ W
  | [], h => by cases h
  | a :: W, h => by
    have h : (Nat.beq c a || memF c W) = true := h
    rcases (Bool.or_eq_true ..).mp h with e | e
    · rw [Nat.eq_of_beq_eq_true e]; exact .head _
    · exact .tail _ (memF_ok e)
theorem upF_ok : ∀ {W : List Nat} {p : Nat}, upF W p = true → (∀ a ∈ W, p < a) ∧ W.Pairwise (· < ·)
  | [], _, _ => ⟨fun _ h => (nomatch h), .nil⟩
  | a :: W, p, h => by
    have h : (Nat.blt p a && upF W a) = true := h
    rw [Bool.and_eq_true, Nat.blt_eq] at h
    obtain ⟨h1, h2⟩ := upF_ok h.2
    refine ⟨fun x hx => ?_, .cons h1 h2⟩
    rcases List.mem_cons.mp hx with rfl | hx
    · exact h.1
    · exact Nat.lt_trans h.1 (h1 x hx)
theorem boxF_ok {r g b lk : Nat} {W : List Nat} : ∀ {P : List Nat} {n : Nat}, boxF r g b lk W P n = true →
    (∀ c ∈ (P.map (codeF r g b)).filter (fun c => Nat.ble c lk), c ∈ W) ∧ n + ((P.map (codeF r g b)).filter (fun c => Nat.ble c lk)).length = W.length
  | [], n, h => by
    have h : Nat.beq n (lenN W) = true := h
    rw [lenN_eq] at h
    exact ⟨fun _ h => (nomatch h), Nat.eq_of_beq_eq_true h⟩
  | p :: P, n, h => by
    have h : (bif Nat.ble (codeF r g b p) lk then (memF (codeF r g b p) W && boxF r g b lk W P (n + 1)) else boxF r g b lk W P n) = true := h
    rw [List.map_cons, List.filter_cons]
    cases hc : Nat.ble (codeF r g b p) lk with
    | true =>
      rw [hc, cond_true, Bool.and_eq_true] at h
      obtain ⟨h1, h2⟩ := boxF_ok h.2
      rw [if_pos rfl]
      refine ⟨fun c hc => ?_, by rw [List.length_cons]; omega⟩
      rcases List.mem_cons.mp hc with rfl | hc
      · exact memF_ok h.1
      · exact h1 c hc
    | false =>
      rw [hc, cond_false] at h
      rw [if_neg (by simp)]
      exact boxF_ok h
/-- what a small entry's number says -/
theorem okc_at {n : Nat} (h : okc n = true) : ∃ S X Y U V : Nat, decN n = [(S : Int), (X : Int) - 512, (Y : Int) - 512, (U : Int) - 512, (V : Int) - 512] ∧ n = ((((S * 1024 + X) * 1024 + Y) * 1024 + U) * 1024 + V) + 1 ∧
    (462 < X ∧ X < 562) ∧ (462 < Y ∧ Y < 562) ∧ (462 < U ∧ U < 562) ∧ (462 < V ∧ V < 562) ∧ keyF n = (S * 1024 + X) * 1024 + Y := by
  cases n with
  | zero => cases h
  | succ n =>
    simp only [okc, Bool.and_eq_true, Nat.blt_eq] at h
    obtain ⟨⟨⟨hV, hU⟩, hY⟩, hX⟩ := h
    refine ⟨_, _, _, _, _, rfl, ?_, hX, hY, hU, hV, ?_⟩
    · omega
    · show n / 1024 / 1024 = _
      omega
theorem key_lt {a b : Nat} (ha : okc a = true) (hb : okc b = true) (h : keyF a < keyF b) : keyT (dec3 (keyF a)) < keyT (dec3 (keyF b)) := by
  obtain ⟨S, X, Y, U, V, _, _, hX, hY, _, _, e⟩ := okc_at ha
  obtain ⟨S', X', Y', U', V', _, _, hX', hY', _, _, e'⟩ := okc_at hb
  rw [e, e'] at h ⊢
  simp only [dec3, keyT3, dm1 _ (b24 hY), dm2 _ (b24 hY), dm1 _ (b24 hX), dm2 _ (b24 hX), dm1 _ (b24 hY'), dm2 _ (b24 hY'), dm1 _ (b24 hX'), dm2 _ (b24 hX')]
  clear e e' ha hb
  omega
end Mine
-- part PD
namespace Mine
noncomputable def mnF (a b : Nat) : Nat := Nat.sub a (Nat.sub a b)
noncomputable def mxF (a b : Nat) : Nat := Nat.add a (Nat.sub b a)
noncomputable def szF (n : Nat) : Nat := Nat.div (Nat.div (keyF n) (nat_lit 1024)) (nat_lit 1024)
noncomputable def thrF (r g b : Nat) (M : List Nat) : Bool :=
  Nat.beq (szF (getN M (nat_lit 0))) (Nat.sub (Nat.add (Nat.add r g) b) (mxF r (mxF g b))) && (Nat.beq (szF (getN M (nat_lit 1))) (Nat.add (mnF r (mnF g b)) (mxF r (mxF g b))) && Nat.beq (szF (getN M (nat_lit 2))) (Nat.sub (Nat.add (Nat.add r g) b) (mnF r (mnF g b))))
noncomputable def det4 (X Y U V : Nat) : Bool :=
  Nat.beq (Nat.add (Nat.mul X V) (Nat.mul (nat_lit 512) (Nat.add Y U))) (Nat.succ (Nat.add (Nat.mul Y U) (Nat.mul (nat_lit 512) (Nat.add X V)))) || Nat.beq (Nat.succ (Nat.add (Nat.mul X V) (Nat.mul (nat_lit 512) (Nat.add Y U)))) (Nat.add (Nat.mul Y U) (Nat.mul (nat_lit 512) (Nat.add X V)))
noncomputable def detF (n : Nat) : Bool := det4 (Nat.mod (Nat.div (keyF n) (nat_lit 1024)) (nat_lit 1024)) (Nat.mod (keyF n) (nat_lit 1024)) (Nat.mod (Nat.div (Nat.pred n) (nat_lit 1024)) (nat_lit 1024)) (Nat.mod (Nat.pred n) (nat_lit 1024))
noncomputable def chkM (r g b : Nat) (M : List Nat) : Bool := thrF r g b M && (detF (getN M (nat_lit 7)) && (upF (withF M) (nat_lit 0) && boxF r g b (keyF (getN M (nat_lit 7))) (withF M) POS (nat_lit 0)))
noncomputable def resF (f : List Nat → Bool) (o : Option (List Nat)) : Bool := Option.rec (motive := fun _ => Bool) false f o
theorem resF_ok {f : List Nat → Bool} : ∀ {o : Option (List Nat)}, resF f o = true → ∃ M, o = some M ∧ f M = true
  | none, h => by cases h
  | some M, h => ⟨M, rfl, h⟩
noncomputable def chkF (r g b : Nat) : Bool := resF (chkM r g b) (metF r g b)
theorem det4_ok {X Y U V : Nat} (h : det4 X Y U V = true) : ((X : Int) - 512) * ((V : Int) - 512) - ((Y : Int) - 512) * ((U : Int) - 512) = 1 ∨ ((X : Int) - 512) * ((V : Int) - 512) - ((Y : Int) - 512) * ((U : Int) - 512) = -1 := by
  rcases (Bool.or_eq_true ..).mp h with e | e
  · left
    have e : X * V + 512 * (Y + U) = Y * U + 512 * (X + V) + 1 := Nat.eq_of_beq_eq_true e
    have e := congrArg (fun n : Nat => (n : Int)) e
    simp only [Int.natCast_add, Int.natCast_mul] at e
    simp only [Int.sub_mul, Int.mul_sub]
    omega
  · right
    have e : X * V + 512 * (Y + U) + 1 = Y * U + 512 * (X + V) := Nat.eq_of_beq_eq_true e
    have e := congrArg (fun n : Nat => (n : Int)) e
    simp only [Int.natCast_add, Int.natCast_mul] at e
    simp only [Int.sub_mul, Int.mul_sub]
    omega
theorem inF_ok {n : Nat} (h : okc n = true) : inBox (decN n) = inF n ∧ (decN n).take 3 = dec3 (keyF n) := by
  obtain ⟨S, X, Y, U, V, e1, e2, hX, hY, hU, hV, e3⟩ := okc_at h
  rw [e1]
  constructor
  · rw [Bool.eq_iff_iff]
    show (decide (((X : Int) - 512).natAbs < 5) && decide ((Y : Int) - 512 < 5)) = true ↔ (Nat.blt (keyF n % 1024) 517 && (Nat.blt 507 (keyF n / 1024 % 1024) && Nat.blt (keyF n / 1024 % 1024) 517)) = true
    rw [e3, dm2 _ (b24 hY), dm1 _ (b24 hY), dm2 _ (b24 hX)]
    simp only [Bool.and_eq_true, decide_eq_true_eq, Nat.blt_eq]
    clear e1 e2 e3 hU hV h
    omega
  · rw [e3]
    unfold dec3
    rw [dm2 _ (b24 hY), dm1 _ (b24 hY), dm2 _ (b24 hX), dm1 _ (b24 hX)]
    rfl
theorem within_eq : ∀ {M : List Nat}, (∀ n ∈ M, okc n = true) → withinP (M.map decN) = (withF M).map dec3
  | [], _ => rfl
  | n :: M, h => by
    obtain ⟨h1, h2⟩ := inF_ok (h n (List.mem_cons_self ..))
    have ih := within_eq (M := M) fun x hx => h x (.tail _ hx)
    unfold withinP at ih ⊢
    rw [List.map_cons, List.filter_cons, h1]
    show _ = List.map dec3 (bif inF n then keyF n :: withF M else withF M)
    cases inF n with
    | true => rw [if_pos rfl, List.map_cons, ih, h2]; rfl
    | false => rw [if_neg (by simp), ih]; rfl
theorem with_mem : ∀ {M : List Nat}, ∀ c ∈ withF M, ∃ n ∈ M, c = keyF n
  | [], c, h => nomatch h
  | n :: M, c, h => by
    have h : c ∈ (bif inF n then keyF n :: withF M else withF M) := h
    cases hn : inF n with
    | true =>
      rw [hn, cond_true] at h
      rcases List.mem_cons.mp h with rfl | h
      · exact ⟨n, .head _, rfl⟩
      · obtain ⟨x, hx, e⟩ := with_mem c h
        exact ⟨x, .tail _ hx, e⟩
    | false =>
      rw [hn, cond_false] at h
      obtain ⟨x, hx, e⟩ := with_mem c h
      exact ⟨x, .tail _ hx, e⟩
theorem sz_ok {n : Nat} (h : okc n = true) : (decN n).headD 0 = (szF n : Int) := by
  obtain ⟨S, X, Y, U, V, e1, e2, hX, hY, hU, hV, e3⟩ := okc_at h
  rw [e1]
  show (S : Int) = ((keyF n / 1024 / 1024 : Nat) : Int)
  rw [e3, dm1 _ (b24 hY), dm1 _ (b24 hX)]
theorem code_nd (r g b : Nat) : (POS.map (codeF r g b)).Nodup := by
  have z := box_nd r g b
  rw [box_dec] at z
  have z := List.pairwise_map.mp (List.pairwise_map.mp z)
  exact z.imp fun h e => h (by rw [e])
theorem mn_ok (a b : Nat) : ((mnF a b : Nat) : Int) = min (a : Int) b := by
  show ((a - (a - b) : Nat) : Int) = _
  omega
theorem mx_ok (a b : Nat) : ((mxF a b : Nat) : Int) = max (a : Int) b := by
  show ((a + (b - a) : Nat) : Int) = _
  omega
theorem mx_le (r g b : Nat) : mxF r (mxF g b) ≤ r + g + b := by
  have h1 := mx_ok r (mxF g b)
  have h2 := mx_ok g b
  omega
theorem mn_le (r g b : Nat) : mnF r (mnF g b) ≤ r + g + b := by
  have h1 := mn_ok r (mnF g b)
  omega
theorem three_ok {r g b a0 a1 a2 : Nat} (t0 : a0 = r + g + b - mxF r (mxF g b)) (t1 : a1 = mnF r (mnF g b) + mxF r (mxF g b)) (t2 : a2 = r + g + b - mnF r (mnF g b)) :
    [(a0 : Int), (a1 : Int), (a2 : Int)] = [min (r : Int) (min g b) + (r + g + b - max (r : Int) (max g b) - min (r : Int) (min g b)), min (r : Int) (min g b) + max (r : Int) (max g b), (r + g + b - max (r : Int) (max g b) - min (r : Int) (min g b)) + max (r : Int) (max g b)] := by
  have l1 := mx_le r g b
  have l2 := mn_le r g b
  have e1 := mn_ok r (mnF g b)
  have e2 := mx_ok r (mxF g b)
  rw [mn_ok g b] at e1
  rw [mx_ok g b] at e2
  rw [← e1, ← e2]
  generalize mnF r (mnF g b) = lo at *
  generalize mxF r (mxF g b) = hi at *
  clear e1 e2
  simp only [List.cons.injEq, and_true]
  refine ⟨?_, ?_, ?_⟩ <;> omega
theorem detF_succ (m : Nat) : detF (m + 1) = det4 (m / 1024 / 1024 / 1024 % 1024) (m / 1024 / 1024 % 1024) (m / 1024 % 1024) (m % 1024) := rfl
theorem last_ok {r g b : Nat} {M : List Nat} {m7 S X Y U V : Nat} (hok : ∀ n ∈ M, okc n = true) (k7 : okc m7 = true) (hu2 : (withF M).Pairwise (· < ·))
    (hb1 : ∀ c ∈ (POS.map (codeF r g b)).filter (fun c => Nat.ble c (keyF m7)), c ∈ withF M) (hb2 : (withF M).length ≤ ((POS.map (codeF r g b)).filter (fun c => Nat.ble c (keyF m7))).length)
    (e1 : decN m7 = [(S : Int), (X : Int) - 512, (Y : Int) - 512, (U : Int) - 512, (V : Int) - 512]) {es' : List (List Int)} (hp : es'.Perm (boxP r g b 5)) (hs : es'.Pairwise (fun e f => keyT e ≤ keyT f)) :
    es'.filter (fun e => lexLe e [(S : Int), (X : Int) - 512, (Y : Int) - 512]) = withinP (M.map decN) := by
  have hk : ([(S : Int), (X : Int) - 512, (Y : Int) - 512] : List Int) = dec3 (keyF m7) := by
    rw [← (inF_ok k7).2, e1]; rfl
  rw [hk, within_eq hok]
  refine perm_sorted_eq keyT ((hp.filter _).trans ?_) (hs.filter _) ?_
  · rw [box_dec, List.filter_map]
    refine List.Perm.map dec3 ?_
    have hf : ((fun e => lexLe e (dec3 (keyF m7))) ∘ dec3) = fun c => Nat.ble c (keyF m7) := by
      funext c
      exact le_dec3 c (keyF m7)
    rw [hf]
    exact perm_of_sub ((code_nd r g b).filter _) hb1 hb2
  · refine List.pairwise_map.mpr (hu2.imp_of_mem ?_)
    intro a c ha hc h
    obtain ⟨x, hx, rfl⟩ := with_mem a ha
    obtain ⟨y, hy, rfl⟩ := with_mem c hc
    exact key_lt (hok x hx) (hok y hy) h
set_option maxRecDepth 100000 in
theorem chk_ok {r g b : Nat} (h : chkF r g b = true) : PlainOK r g b := by
  unfold chkF at h
  obtain ⟨M, hm, h⟩ := resF_ok h
  rw [metF_eq] at hm
  have h : (thrF r g b M && (detF (getN M 7) && (upF (withF M) 0 && boxF r g b (keyF (getN M 7)) (withF M) POS 0))) = true := h
  obtain ⟨good, hM, h8, hok⟩ := metN_ok hm
  simp only [Bool.and_eq_true] at h
  obtain ⟨ht, hd, hu, hb⟩ := h
  obtain ⟨m0, m1, m2, m3, m4, m5, m6, m7, e⟩ : ∃ m0 m1 m2 m3 m4 m5 m6 m7, M = [m0, m1, m2, m3, m4, m5, m6, m7] := len8 h8
  have g0 : getN M 0 = m0 := by rw [e]; rfl
  have g1 : getN M 1 = m1 := by rw [e]; rfl
  have g2 : getN M 2 = m2 := by rw [e]; rfl
  have g7 : getN M 7 = m7 := by rw [e]; rfl
  have k0 : okc m0 = true := hok _ (by rw [e]; simp)
  have k1 : okc m1 = true := hok _ (by rw [e]; simp)
  have k2 : okc m2 = true := hok _ (by rw [e]; simp)
  have k7 : okc m7 = true := hok _ (by rw [e]; simp)
  rw [g7] at hd hb
  obtain ⟨hu1, hu2⟩ := upF_ok hu
  obtain ⟨hb1, hb2⟩ := boxF_ok hb
  obtain ⟨S, X, Y, U, V, e1, e2, hX, hY, hU, hV, e3⟩ := okc_at k7
  refine { good := good, len := ?len, five := ?five, three := ?three, last := ?last, box3 := box_3 r g b, boxN := box_nd r g b, box2 := ?b2, box64 := ?b64 }
  case len => rw [hM, List.length_map, h8]
  case five =>
    rw [hM]
    intro x hx
    obtain ⟨n, hn, rfl⟩ := List.mem_map.mp hx
    obtain ⟨S, X, Y, U, V, e1, _⟩ := okc_at (hok n hn)
    exact ⟨_, _, _, _, _, e1⟩
  case b2 => rw [box_len]; decide
  case b64 => rw [box_len]; decide
  case three =>
    rw [hM, e]
    show [(decN m0).headD 0, (decN m1).headD 0, (decN m2).headD 0] = _
    rw [sz_ok k0, sz_ok k1, sz_ok k2]
    simp only [thrF, Bool.and_eq_true] at ht
    have t0 := Nat.eq_of_beq_eq_true ht.1
    have t1 := Nat.eq_of_beq_eq_true ht.2.1
    have t2 := Nat.eq_of_beq_eq_true ht.2.2
    have t0 : szF (getN M 0) = r + g + b - mxF r (mxF g b) := t0
    have t1 : szF (getN M 1) = mnF r (mnF g b) + mxF r (mxF g b) := t1
    have t2 : szF (getN M 2) = r + g + b - mnF r (mnF g b) := t2
    rw [g0] at t0
    rw [g1] at t1
    rw [g2] at t2
    exact three_ok t0 t1 t2
  case last =>
    refine ⟨(S : Int), (X : Int) - 512, (Y : Int) - 512, (U : Int) - 512, (V : Int) - 512, ?_, ?_, by omega, by omega, by omega, by omega, ?_⟩
    · rw [hM, e, ← e1]; rfl
    · refine det4_ok ?_
      rw [e2, detF_succ, dm1 _ (b24 hV), dm2 _ (b24 hV), dm1 _ (b24 hU), dm2 _ (b24 hU), dm1 _ (b24 hY), dm2 _ (b24 hY), dm2 _ (b24 hX)] at hd
      exact hd
    · intro es' hp hs
      rw [hM]
      exact last_ok hok k7 hu2 hb1 (by omega) e1 hp hs
noncomputable def rowF (r : Nat) : Bool := (List.range 13).all fun g => (List.range 13).all fun b => !two r g b || chkF r g b
end Mine
-- part PR
namespace Mine
theorem row_a : rowF 0 = true := by decide +kernel
theorem row_b : rowF 1 = true := by decide +kernel
theorem row_c : rowF 2 = true := by decide +kernel
theorem row_d : rowF 3 = true := by decide +kernel
theorem row_e : rowF 4 = true := by decide +kernel
theorem row_f : rowF 5 = true := by decide +kernel
theorem row_g : rowF 6 = true := by decide +kernel
theorem row_h : rowF 7 = true := by decide +kernel
theorem row_i : rowF 8 = true := by decide +kernel
theorem row_j : rowF 9 = true := by decide +kernel
theorem row_k : rowF 10 = true := by decide +kernel
theorem row_l : rowF 11 = true := by decide +kernel
theorem row_m : rowF 12 = true := by decide +kernel
theorem rows_ok : ∀ r, r < 13 → rowF r = true
  | 0, _ => row_a
  | 1, _ => row_b
  | 2, _ => row_c
  | 3, _ => row_d
  | 4, _ => row_e
  | 5, _ => row_f
  | 6, _ => row_g
  | 7, _ => row_h
  | 8, _ => row_i
  | 9, _ => row_j
  | 10, _ => row_k
  | 11, _ => row_l
  | 12, _ => row_m
  | n + 13, h => absurd h (by omega)
end Mine
-- part PS
namespace Mine
theorem plain_ok (r g b : Int) (h : 0 ≤ r ∧ r ≤ 12 ∧ 0 ≤ g ∧ g ≤ 12 ∧ 0 ≤ b ∧ b ≤ 12) (h2 : (0 < r ∧ 0 < g) ∨ (0 < r ∧ 0 < b) ∨ (0 < g ∧ 0 < b)) : PlainOK r g b := by
  obtain ⟨a, rfl⟩ : ∃ a : Nat, r = a := ⟨r.toNat, by omega⟩
  obtain ⟨c, rfl⟩ : ∃ c : Nat, g = c := ⟨g.toNat, by omega⟩
  obtain ⟨d, rfl⟩ : ∃ d : Nat, b = d := ⟨b.toNat, by omega⟩
  have z := rows_ok a (by omega)
  unfold rowF at z
  have z := List.all_eq_true.mp (List.all_eq_true.mp z c (List.mem_range.mpr (by omega))) d (List.mem_range.mpr (by omega))
  have t : two a c d = true := by
    simp only [two, Bool.or_eq_true, Bool.and_eq_true, decide_eq_true_eq]
    omega
  rcases (Bool.or_eq_true ..).mp z with z | z
  · rw [t] at z; cases z
  · exact chk_ok z
end Mine
theorem PySem.Challenge.cw_qu0043_01_holds : PySem.Challenge.rw_qu0043_01.Holds :=
  Mine.fin Mine.plain_ok
