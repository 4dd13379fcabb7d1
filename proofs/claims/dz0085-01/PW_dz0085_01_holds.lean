import PyProof.Rows.All
import Wide.All
import OpenK.AllK
import Wide.FinOn
import PySem.Challenge.RW_dz0085_01
set_option Elab.async false
set_option rowWalk.seconds 0
section
open PySem PySem.W PyProof.Rows
set_option maxRecDepth 100000
set_option maxHeartbeats 8000000
namespace Mine
open_top hd for PySem.Challenge.rw_dz0085_01
end Mine
end
section
open PySem PySem.W PyProof.Rows
set_option maxRecDepth 100000
namespace Mine
/-- a cell of a row -/
def cellD (r : Dat) (i : Int) : Dat := match r with
  | .tuple ds => ds.getD i.toNat .none
  | _ => .none
/-- the order of two cells of one kind -/
def cellLt : Dat → Dat → Bool
  | .int a, .int b => decide (a < b)
  | .str a, .str b => decide (a.cps.toList < b.cps.toList)
  | .tuple [.int a, .int b], .tuple [.int c, .int d] => decide (a < c ∨ (a = c ∧ b < d))
  | _, _ => false
/-- what compare tells -/
def cmpD : List (Int × Int) → Dat → Dat → Int
  | [], _, _ => 0
  | (i, d) :: ks, l, r => if cellLt (cellD l i) (cellD r i) = true then -d else if cellLt (cellD r i) (cellD l i) = true then d else cmpD ks l r
def keyD (k : Int × Int) : Dat := .tuple [.int k.1, .int k.2]
/-- a cell's kind: an int, a text that can be laid, a pair of ints -/
inductive CellK : Bool → Dat → Prop
  | str (x : Str) (h : PyData.strOk x = true) : CellK false (.str x)
  | pair (a b : Int) : CellK true (.tuple [.int a, .int b])
/-- a row of kind b -/
inductive RowK (b : Bool) : Dat → Prop
  | mk (x y : Int) (c : Dat) (k : Int) : CellK b c → RowK b (.tuple [.int x, .int y, c, .int k])
def KeyOk (k : Int × Int) : Prop := (k.1 = 0 ∨ k.1 = 1 ∨ k.1 = 2) ∧ (k.2 = 1 ∨ k.2 = -1)
abbrev tupObj (vs : List Value) (n : Nat) : Obj := { cls := .type "tuple", data := .seq vs.toArray n }
/-- the ledger bears a TupleComp of these keys at v -/
inductive JudgeIn (w : World) (news : List (Addr × Obj)) : Value → List (Int × Int) → Prop
  | mk {j dj tk : Addr} {t : Tok} {vs : List Value} {n : Nat} {keys : List (Int × Int)} : (j, instObj 38 dj) ∈ news → (dj, dictOf [⟨PyData.keyHash w.params (Str.ofString "comp_select_list"), .str (Str.ofString "comp_select_list") t, .ref tk⟩] 1) ∈ news →
      (tk, tupObj vs n) ∈ news → DatAll news vs (keys.map keyD) → JudgeIn w news (.ref j) keys
theorem JudgeIn.inst {w : World} {news : List (Addr × Obj)} {v : Value} {keys : List (Int × Int)} (h : JudgeIn w news v keys) : ∃ j dj t tk, v = .ref j ∧ (j, instObj 38 dj) ∈ news ∧ (dj, dictOf [⟨PyData.keyHash w.params (Str.ofString "comp_select_list"), .str (Str.ofString "comp_select_list") t, .ref tk⟩] 1) ∈ news := by
  cases h with
  | mk h1 h2 h3 h4 => exact ⟨_, _, _, _, rfl, h1, h2⟩
theorem JudgeIn.mono {w : World} {news news' : List (Addr × Obj)} {v : Value} {keys : List (Int × Int)} (h : JudgeIn w news v keys) (hs : ∀ p ∈ news, p ∈ news') : JudgeIn w news' v keys := by
  cases h with
  | mk h1 h2 h3 h4 => exact .mk (hs _ h1) (hs _ h2) (hs _ h3) (h4.mono hs)
end Mine
namespace Mine
/-- the merging of two lists -/
def mergeD (keys : List (Int × Int)) : List Dat → List Dat → List Dat
  | [], r => r
  | a :: l, [] => a :: l
  | a :: l, b :: r => if 0 < cmpD keys a b then b :: mergeD keys (a :: l) r else a :: mergeD keys l (b :: r)
  termination_by l r => l.length + r.length
/-- what _law_sorted gives -/
def sortF (keys : List (Int × Int)) : Nat → List Dat → List Dat
  | 0, l => l
  | f + 1, l => if l.length < 2 then l else mergeD keys (sortF keys f (l.take (l.length / 2))) (sortF keys f (l.drop (l.length / 2)))
theorem mergeD_nil_right (keys : List (Int × Int)) (l : List Dat) : mergeD keys l [] = l := by
  cases l <;> simp [mergeD]
theorem mergeD_length (keys : List (Int × Int)) : ∀ (l r : List Dat), (mergeD keys l r).length = l.length + r.length
  | [], r => by simp [mergeD]
  | a :: l, [] => by simp [mergeD]
  | a :: l, b :: r => by
    rw [mergeD]
    split
    · rw [List.length_cons, mergeD_length keys (a :: l) r]; simp only [List.length_cons]; omega
    · rw [List.length_cons, mergeD_length keys l (b :: r)]; simp only [List.length_cons]; omega
  termination_by l r => l.length + r.length
theorem mergeD_mem (keys : List (Int × Int)) : ∀ (l r : List Dat) (x : Dat), x ∈ mergeD keys l r → x ∈ l ∨ x ∈ r
  | [], r, x, h => by simp [mergeD] at h; exact .inr h
  | a :: l, [], x, h => by simp [mergeD] at h; exact .inl (List.mem_cons.mpr h)
  | a :: l, b :: r, x, h => by
    rw [mergeD] at h
    split at h
    · rcases List.mem_cons.mp h with rfl | h
      · exact .inr List.mem_cons_self
      · exact (mergeD_mem keys (a :: l) r x h).imp id (List.mem_cons_of_mem _)
    · rcases List.mem_cons.mp h with rfl | h
      · exact .inl List.mem_cons_self
      · exact (mergeD_mem keys l (b :: r) x h).imp (List.mem_cons_of_mem _) id
  termination_by l r => l.length + r.length
theorem sortF_length (keys : List (Int × Int)) : ∀ (f : Nat) (l : List Dat), (sortF keys f l).length = l.length
  | 0, _ => rfl
  | f + 1, l => by
    rw [sortF]
    split
    · rfl
    · rw [mergeD_length, sortF_length keys f, sortF_length keys f, List.length_take, List.length_drop]; omega
theorem sortF_mem (keys : List (Int × Int)) : ∀ (f : Nat) (l : List Dat) (x : Dat), x ∈ sortF keys f l → x ∈ l
  | 0, _, _, h => h
  | f + 1, l, x, h => by
    rw [sortF] at h
    split at h
    · exact h
    · rcases mergeD_mem _ _ _ _ h with h | h
      · exact List.mem_of_mem_take (sortF_mem keys f _ x h)
      · exact List.mem_of_mem_drop (sortF_mem keys f _ x h)
end Mine
end
section
open PySem PySem.W PyProof.Rows PySem.Spec
set_option maxRecDepth 100000
namespace Mine
section
variable {prog : Program} {w : World} {A : Around} {E : Value → Shared → Prop} {s : Shared} {h₀ : Heap} {L : Addr} {news : List (Addr × Obj)}
theorem tup_type {a : Addr} {vs : List Value} {n : Nat} (N : News h₀ L s.heap news) (h : (a, tupObj vs n) ∈ news) : s.TypeIs (.ref a) "tuple" := ⟨_, (N _ h).1, rfl⟩
theorem lt_pair_tree {a b : Addr} {x y x' y' : Int} {t1 t2 t3 t4 : Tok} {n k : Nat} {P : PySem.Fin → Shared → Prop} (N : News h₀ L s.heap news) (h1 : (a, tupObj [.int x t1, .int y t2] n) ∈ news) (h2 : (b, tupObj [.int x' t3, .int y' t4] k) ∈ news)
    (h : P (.done (.ret (.bool (decide (x < x' ∨ (x = x' ∧ y < y')))))) s) : wpAny (model prog w) A (Builtin.«tuple.__lt__» ⟨[.ref a, .ref b], []⟩) P E s := by
  show wpAny _ _ (isInstance (.ref b) (.type "tuple") >>= _) _ _ s
  refine wpAny_bind (wpAny_isInstance (tup_type N h2) isSubtype_tuple_tuple ?_)
  simp only [Bool.not_true, Bool.false_eq_true, if_false]
  refine wpAny_bind (wpAny_tupleItemsOf (N _ h1).1 rfl ?_)
  refine wpAny_bind (wpAny_tupleItemsOf (N _ h2).1 rfl ?_)
  refine wpAny_bind ?_
  simp only [List.zip_cons_cons, List.zip_nil_right, List.forIn_cons, List.forIn_nil]
  refine wpAny_bind (wpAny_bind (wpAny_eqBool_int ?_))
  by_cases e : x = x'
  · subst e
    simp only [beq_self_eq_true, Bool.not_true, Bool.false_eq_true, if_false]
    refine wpAny_pure (wpAny_bind (wpAny_bind (wpAny_eqBool_int ?_)))
    by_cases e : y = y'
    · subst e
      simp only [beq_self_eq_true, Bool.not_true, Bool.false_eq_true, if_false]
      refine wpAny_pure (wpAny_pure ?_)
      have q : decide (x < x ∨ (x = x ∧ y < y)) = false := by simp
      rw [q] at h
      exact wpAny_pure h
    · have e' : (y == y') = false := by simpa using e
      simp only [e', Bool.not_false, if_true]
      refine wpAny_bind (wpAny_rule (wpAny_bind ?_))
      show wpAny _ _ (compareOp .Lt (.int y t2) (.int y' t4)) _ _ _
      refine lt_int ?_
      refine wpAny_bind (wpAny_pure (wpAny_pure (wpAny_pure (wpAny_pure ?_))))
      simpa using h
  · have e' : (x == x') = false := by simpa using e
    simp only [e', Bool.not_false, if_true]
    refine wpAny_bind (wpAny_rule (wpAny_bind ?_))
    show wpAny _ _ (compareOp .Lt (.int x t1) (.int x' t3)) _ _ _
    refine lt_int ?_
    refine wpAny_bind (wpAny_pure (wpAny_pure (wpAny_pure (wpAny_pure ?_))))
    have e2 : ¬ x' = x := fun q => e q.symm
    simpa [e, e2] using h
theorem lt_pair {a b : Addr} {x y x' y' : Int} {t1 t2 t3 t4 : Tok} {n k : Nat} {Q : Value → Shared → Prop} (N : News h₀ L s.heap news) (h1 : (a, tupObj [.int x t1, .int y t2] n) ∈ news) (h2 : (b, tupObj [.int x' t3, .int y' t4] k) ∈ news) (hu : A.units < cLine)
    (h : Q (.bool (decide (x < x' ∨ (x = x' ∧ y < y')))) s) : wpAny (model prog w) A (compareOp .Lt (.ref a) (.ref b)) Q E s := by
  show wpAny _ _ (richCompare .Lt _ _) _ _ _
  exact wpAny_richCompare_same_room (op := .Lt) (tup_type N h1) (tup_type N h2) F.slot_tuple_lt (wpAny_call_entry F.slot_tuple_lt (tup_type N h1) F.entry_tuple_lt (lt_pair_tree N h1 h2 ⟨_, rfl, (fun e => nomatch e), h⟩) (F.args_tuple_lt_2 _ _)) hu
theorem gt_pair_tree {a b : Addr} {x y x' y' : Int} {t1 t2 t3 t4 : Tok} {n k : Nat} {P : PySem.Fin → Shared → Prop} (N : News h₀ L s.heap news) (h1 : (a, tupObj [.int x t1, .int y t2] n) ∈ news) (h2 : (b, tupObj [.int x' t3, .int y' t4] k) ∈ news)
    (h : P (.done (.ret (.bool (decide (x' < x ∨ (x' = x ∧ y' < y)))))) s) : wpAny (model prog w) A (Builtin.«tuple.__gt__» ⟨[.ref a, .ref b], []⟩) P E s := by
  show wpAny _ _ (isInstance (.ref b) (.type "tuple") >>= _) _ _ s
  refine wpAny_bind (wpAny_isInstance (tup_type N h2) isSubtype_tuple_tuple ?_)
  simp only [Bool.not_true, Bool.false_eq_true, if_false]
  refine wpAny_bind (wpAny_tupleItemsOf (N _ h1).1 rfl ?_)
  refine wpAny_bind (wpAny_tupleItemsOf (N _ h2).1 rfl ?_)
  refine wpAny_bind ?_
  simp only [List.zip_cons_cons, List.zip_nil_right, List.forIn_cons, List.forIn_nil]
  refine wpAny_bind (wpAny_bind (wpAny_eqBool_int ?_))
  by_cases e : x = x'
  · subst e
    simp only [beq_self_eq_true, Bool.not_true, Bool.false_eq_true, if_false]
    refine wpAny_pure (wpAny_bind (wpAny_bind (wpAny_eqBool_int ?_)))
    by_cases e : y = y'
    · subst e
      simp only [beq_self_eq_true, Bool.not_true, Bool.false_eq_true, if_false]
      refine wpAny_pure (wpAny_pure ?_)
      have q : decide (x < x ∨ (x = x ∧ y < y)) = false := by simp
      rw [q] at h
      exact wpAny_pure h
    · have e' : (y == y') = false := by simpa using e
      simp only [e', Bool.not_false, if_true]
      refine wpAny_bind (wpAny_rule (wpAny_bind ?_))
      show wpAny _ _ (compareOp .Gt (.int y t2) (.int y' t4)) _ _ _
      refine PyProof.Rows.gt_int ?_
      refine wpAny_bind (wpAny_pure (wpAny_pure (wpAny_pure (wpAny_pure ?_))))
      simpa using h
  · have e' : (x == x') = false := by simpa using e
    simp only [e', Bool.not_false, if_true]
    refine wpAny_bind (wpAny_rule (wpAny_bind ?_))
    show wpAny _ _ (compareOp .Gt (.int x t1) (.int x' t3)) _ _ _
    refine PyProof.Rows.gt_int ?_
    refine wpAny_bind (wpAny_pure (wpAny_pure (wpAny_pure (wpAny_pure ?_))))
    have e2 : ¬ x' = x := fun q => e q.symm
    simpa [e, e2] using h
theorem gt_pair {a b : Addr} {x y x' y' : Int} {t1 t2 t3 t4 : Tok} {n k : Nat} {Q : Value → Shared → Prop} (N : News h₀ L s.heap news) (h1 : (a, tupObj [.int x t1, .int y t2] n) ∈ news) (h2 : (b, tupObj [.int x' t3, .int y' t4] k) ∈ news) (hu : A.units < cLine)
    (h : Q (.bool (decide (x' < x ∨ (x' = x ∧ y' < y)))) s) : wpAny (model prog w) A (compareOp .Gt (.ref a) (.ref b)) Q E s := by
  show wpAny _ _ (richCompare .Gt _ _) _ _ _
  exact wpAny_richCompare_same_room (op := .Gt) (tup_type N h1) (tup_type N h2) F.slot_tuple_gt (wpAny_call_entry F.slot_tuple_gt (tup_type N h1) F.entry_tuple_gt (gt_pair_tree N h1 h2 ⟨_, rfl, (fun e => nomatch e), h⟩) (F.args_tuple_gt_2 _ _)) hu

/-- two cells of one kind -/
inductive SameK : Dat → Dat → Prop
  | int (a b : Int) : SameK (.int a) (.int b)
  | str (a b : Str) : SameK (.str a) (.str b)
  | pair (a b c d : Int) : SameK (.tuple [.int a, .int b]) (.tuple [.int c, .int d])
theorem SameK.symm {a b : Dat} (h : SameK a b) : SameK b a := by cases h <;> constructor
theorem pair_in {v : Value} {a b : Int} (h : DatIn news v (.tuple [.int a, .int b])) : ∃ x t1 t2 n, v = .ref x ∧ (x, tupObj [.int a t1, .int b t2] n) ∈ news := by
  cases h with
  | tuple hm r =>
    cases r with
    | cons h1 r =>
      cases r with
      | cons h2 r => cases r; cases h1; cases h2; exact ⟨_, _, _, _, rfl, hm⟩
theorem cell_lt {v u : Value} {c d : Dat} {Q : Value → Shared → Prop} (N : News h₀ L s.heap news) (h1 : DatIn news v c) (h2 : DatIn news u d) (k : SameK c d) (hu : A.units < cLine) (h : Q (.bool (cellLt c d)) s) :
    wpAny (model prog w) A (compareOp .Lt v u) Q E s := by
  cases k with
  | int a b => cases h1; cases h2; exact lt_int h
  | str a b => cases h1; cases h2; exact PyProof.Rows.lt_str h
  | pair a b c d =>
    obtain ⟨_, _, _, _, rfl, m1⟩ := pair_in h1
    obtain ⟨_, _, _, _, rfl, m2⟩ := pair_in h2
    exact lt_pair N m1 m2 hu h
theorem cell_gt {v u : Value} {c d : Dat} {Q : Value → Shared → Prop} (N : News h₀ L s.heap news) (h1 : DatIn news v c) (h2 : DatIn news u d) (k : SameK c d) (hu : A.units < cLine) (h : Q (.bool (cellLt d c)) s) :
    wpAny (model prog w) A (compareOp .Gt v u) Q E s := by
  cases k with
  | int a b => cases h1; cases h2; exact PyProof.Rows.gt_int h
  | str a b => cases h1; cases h2; exact PySem.P.gt_str h
  | pair a b c d =>
    obtain ⟨_, _, _, _, rfl, m1⟩ := pair_in h1
    obtain ⟨_, _, _, _, rfl, m2⟩ := pair_in h2
    exact gt_pair N m1 m2 hu h
end
theorem row_item {prog : Program} {w : World} {A : Around} {E : Value → Shared → Prop} {s : Shared} {h₀ : Heap} {L : Addr} {news news' : List (Addr × Obj)} {value slice : Expr} {v : Value} {r : Dat} {b : Bool} {i : Int} {u : Tok} {Q : Value → Shared → Prop}
    (N : News h₀ L s.heap news) (h : DatIn news' v r) (hsub : ∀ p ∈ news', p ∈ news) (kr : RowK b r) (hi : i = 0 ∨ i = 1 ∨ i = 2) (hq : ∀ c, DatIn news' c (cellD r i) → Q c s)
    (hs : ∀ a, subscripted slice false (.ref a) (.int i u) = operate [.ref a, .int i u] (getItem (.ref a) (.int i u)) := by intro _; with_unfolding_all rfl) :
    wpAny (model prog w) A (subscriptTail value slice v (.int i u)) Q E s := by
  cases kr with
  | mk x y c k hc =>
    cases h with
    | tuple hm r =>
      cases r with
      | cons h0 r =>
        cases r with
        | cons h1 r =>
          cases r with
          | cons h2 r =>
            cases r with
            | cons h3 r =>
              cases r
              rcases hi with rfl | rfl | rfl
              · exact item_tupleT (News.isTup N (hsub _ hm)) (by decide) (by decide) rfl rfl (hq _ h0) (hs _)
              · exact item_tupleT (News.isTup N (hsub _ hm)) (by decide) (by decide) rfl rfl (hq _ h1) (hs _)
              · exact item_tupleT (News.isTup N (hsub _ hm)) (by decide) (by decide) rfl rfl (hq _ h2) (hs _)
/-- two rows of one kind at a key -/
theorem row_cells {b : Bool} {l r : Dat} (kl : RowK b l) (kr : RowK b r) {k : Int × Int} (hk : KeyOk k) : SameK (cellD l k.1) (cellD r k.1) := by
  obtain ⟨hk, _⟩ := hk
  cases kl with
  | mk x y c z hc =>
    cases kr with
    | mk x' y' c' z' hc' =>
      rcases hk with e | e | e <;> rw [e]
      · exact .int _ _
      · exact .int _ _
      · cases hc with
        | str => cases hc'; exact .str _ _
        | pair => cases hc'; exact .pair _ _ _ _
end Mine
end
section
open PySem PySem.W PyProof.Rows
set_option maxRecDepth 100000
set_option maxHeartbeats 2000000
namespace Mine
local macro_rules | `(tactic| walk_at "eval Name") => `(tactic| (k_here; k_dflt (refine' ld ?k1 ?k2 ?_; (case k1 => k_asm); (case k2 => assumption); k_whole)))
theorem fill_K : (fun (_ : OpenLaw) (_ : Params → Frag) => True) PySem.Challenge.rw_dz0085_01 hd.heap_39 := by
  k_fill
  trivial
theorem noE {α : Type} {M : Model} {A : Around} {t : Sem α} {Q : α → Shared → Prop} {E : Value → Shared → Prop} {s : Shared} (h : wpAny M A t Q (fun _ _ => False) s) : wpAny M A t Q E s := wpAny_mono h (fun _ _ x => x) fun _ _ x => x.elim
theorem compare_call {prog : Program} {w : World} {p : Program} {loose : List Str} {mean : ExcName → Option Value} {mg mb : Str → Option Value} (dp un : Nat) (gd : Option (List Code)) (cn : Str) (cs : Scope) (a : Addr) (ccd : Value) (cl : List (Str × Addr)) (outer : List Env) (A₀ : Around) (base h₀ : Heap) (L : Addr) (m : Str → Option Value) (news : List (Addr × Obj)) (s : Shared)
    {jv lv rv : Value} {keys : List (Int × Int)} {l r : Dat} {b : Bool} {Q E : Value → Shared → Prop}
    (B : Below A₀ base outer h₀) (F : Fr h₀ L s.heap m) (X : (hd.heap_39 w.params).In h₀) (N : News h₀ L s.heap news) (T : Top p loose mean mg mb h₀) (hk : cs.kind = .function)
    (hdp : dp + 8 < recursionLimit) (hun : un + 200 < cLine) (J : JudgeIn w news jv keys) (hl : DatIn news lv l) (hr : DatIn news rv r) (kl : RowK b l) (kr : RowK b r) (hkeys : ∀ k ∈ keys, KeyOk k)
    (ret : ∀ t h' tk', Fr h₀ L h' m → News h₀ L h' news → Q (.int (cmpD keys l r) t) { s with heap := h', toks := tk' }) :
    wpAny (model prog w) (ktrTop dp un gd cn cs L a ccd cl outer) (call (.ref 35) [jv, lv, rv]) Q E s := by
  w_top off
  cases J with
  | @mk j dj tk t vs n _ j1 j2 j3 j4 =>
  refine wpAny_call ?_
  k_dflt (refine' code_def (binds := [(Str.ofString "self", .ref j), (Str.ofString "left", lv), (Str.ofString "right", rv)]) B F X N T rfl rfl hk ?k6 ?k7 ?k8 ?k9 ?kB ?kk ?c2 ?c3 ?c4 ?c5)
  case k6 => k_is
  case k7 => k_is
  case k8 => show dp < recursionLimit; omega
  case k9 => exact BindsTo.of_eq rfl
  case c5 => decide
  case kB => exact locs rfl
  case c2 => exact rfl
  case c3 => exact rfl
  case c4 => exact rfl
  intro g L' h' FG F' N' B' X' T'
  refine noE (wpAny_execs_cons ?_)
  refine For_turns F' ?_ (fun _ => rfl)
  walk1
  walk1
  walk1
  refine iter_tupTurns (lo := tupObj vs n) rfl F' N' j3 rfl rfl (fun I hI => ?_)
  have hI' : ∀ p ∈ news, p.1 ≠ I := fun p hp => Nat.ne_of_lt (hI p hp)
  obtain ⟨m₁, hm₁, hl₁, hr₁⟩ : ∃ m₁ : Str → Option Value, m₁ = (fun y => List.lookup y [(Str.ofString "self", Value.ref j), (Str.ofString "left", lv), (Str.ofString "right", rv)].reverse) ∧ m₁ (Str.ofString "left") = some lv ∧ m₁ (Str.ofString "right") = some rv := ⟨_, rfl, rfl, rfl⟩
  rw [← hm₁]
  clear hm₁ F' N' j2
  clear j1
  obtain ⟨ks, hks⟩ : ∃ ks, ks = keys := ⟨_, rfl⟩
  have hc : cmpD keys l r = cmpD ks l r := by rw [hks]
  rw [← hks] at j4 hkeys
  clear hks
  obtain ⟨us, hus⟩ : ∃ us, us = vs := ⟨_, rfl⟩
  rw [← hus] at j4
  rw [show vs.map Itm.val = us.map Itm.val by rw [hus]]
  clear hus
  induction us generalizing ks m₁ with
  | nil =>
    cases ks with
    | cons k ks => cases j4
    | nil =>
      refine ItemsRest.zero ?_
      intro h₁ tk₁ F₁ N₁
      replace F₁ : Fr g L' h₁ m₁ := F₁
      replace N₁ : News g L' h₁ news := N₁
      dsimp only
      walk1
      walk1
      walk1
      walk1
      rw [hc] at ret
      exact ret _ _ _ (by assumption) (by assumption)
  | cons u us ih =>
    cases ks with
    | nil => cases j4
    | cons k ks =>
      cases j4 with
      | cons jk j4 =>
      refine ItemsRest.val (fun h₁ tk₁ F₁ => AllObj.cons (fun o₁ ho₁ => AllObj.nil (fun N₁ => ?_)))
      obtain ⟨x, t1, t2, nk, rfl, hx⟩ := pair_in jk
      replace F₁ : Fr g L' h₁ m₁ := F₁
      replace N₁ : News g L' h₁ ((I, o₁) :: news) := N₁
      refine unpackN_ F₁ N₁ (News.isTup N₁ (.tail _ hx)) rfl rfl rfl ?_
      intro h₂ F₂ N₂
      clear F₁ N₁
      iterate 7 walk1
      have hko : KeyOk k := hkeys k List.mem_cons_self
      iterate 5 walk1
      refine row_item (by assumption) hl (fun p hp => List.mem_cons_of_mem _ hp) kl hko.1 (fun c1 hc1 => ?_)
      iterate 6 walk1
      refine row_item (by assumption) hr (fun p hp => List.mem_cons_of_mem _ hp) kr hko.1 (fun c2 hc2 => ?_)
      have hsk := row_cells kl kr hko
      iterate 6 walk1
      refine cell_lt (by assumption) (hc1.mono (fun p hp => List.mem_cons_of_mem _ hp)) (hc2.mono (fun p hp => List.mem_cons_of_mem _ hp)) hsk (show un + 3 < cLine by omega) ?_
      walk1
      by_cases hlt : cellLt (cellD l k.1) (cellD r k.1) = true
      · rw [hlt]
        iterate 6 walk1
        walk1
        dsimp only [UnrPostW]
        walk1
        rw [hc, cmpD, if_pos hlt] at ret
        exact ret _ _ _ (by assumption) (fun p hp => by first | exact (by assumption : News _ _ _ _) p (List.mem_cons_of_mem _ hp))
      · rw [Bool.eq_false_iff.mpr hlt]
        iterate 8 walk1
        refine cell_gt (by assumption) (hc1.mono (fun p hp => List.mem_cons_of_mem _ hp)) (hc2.mono (fun p hp => List.mem_cons_of_mem _ hp)) hsk (show un + 3 < cLine by omega) ?_
        by_cases hgt : cellLt (cellD r k.1) (cellD l k.1) = true
        · rw [hgt]
          iterate 7 walk1
          rw [hc, cmpD, if_neg hlt, if_pos hgt] at ret
          exact ret _ _ _ (by assumption) (fun p hp => by first | exact (by assumption : News _ _ _ _) p (List.mem_cons_of_mem _ hp))
        · rw [Bool.eq_false_iff.mpr hgt]
          iterate 4 walk1
          dsimp only [UnrPostW]
          refine ⟨_, _, _, news, rfl, by assumption, by assumption, ?_, ⟨j3, trivial⟩, ih _ ?_ ?_ ks (fun k' hk' => hkeys k' (List.mem_cons_of_mem _ hk')) ?_ j4⟩
          · intro p hp q hq
            rw [List.mem_singleton.mp hq]
            exact hI' p hp
          · exact hl₁
          · exact hr₁
          · rw [hc, cmpD, if_neg hlt, if_neg hgt]
end Mine
end
section
open PySem PySem.W PyProof.Rows PySem.Spec
set_option maxRecDepth 100000
namespace Mine
theorem dat_take {news : List (Addr × Obj)} : ∀ {vs : List Value} {ds : List Dat} (k : Nat), DatAll news vs ds → DatAll news (vs.take k) (ds.take k)
  | _, _, 0, _ => by simp only [List.take_zero]; exact .nil
  | _, _, _ + 1, .nil => by simp only [List.take_nil]; exact .nil
  | _, _, k + 1, .cons h r => .cons h (dat_take k r)
theorem dat_drop {news : List (Addr × Obj)} : ∀ {vs : List Value} {ds : List Dat} (k : Nat), DatAll news vs ds → DatAll news (vs.drop k) (ds.drop k)
  | _, _, 0, h => h
  | _, _, _ + 1, .nil => .nil
  | _, _, k + 1, .cons _ r => dat_drop k r
theorem dat_reverse {news : List (Addr × Obj)} : ∀ {vs : List Value} {ds : List Dat}, DatAll news vs ds → DatAll news vs.reverse ds.reverse
  | _, _, .nil => .nil
  | _, _, .cons h r => by rw [List.reverse_cons, List.reverse_cons]; exact (dat_reverse r).append (.one h)
section
variable {prog : Program} {w : World} {A : Around} {E : Value → Shared → Prop} {s : Shared} {h₀ : Heap} {L l : Addr} {m : Str → Option Value} {news L9 : List (Addr × Obj)} {value slice : PySem.Expr} {vs : List Value} {ds : List Dat} {n : Nat} {x y : Int} {t : Tok} {Q : Value → Shared → Prop}
theorem slice_upto (F : Fr h₀ L s.heap m) (N : News h₀ L s.heap news) (hm : (l, listOf vs.toArray n) ∈ news) (hd : DatAll L9 vs ds) (hy : 0 ≤ y) (hz : ds.length ≤ 1000)
    (h : ∀ D us h', Fr h₀ L h' m → News h₀ L h' ((D, listOf (List.toArray us) 0) :: news) → (∀ p ∈ news, p.1 < D) → DatAll L9 us (ds.take y.toNat) → Q (.ref D) { s with heap := h' })
    (hs : subscripted slice false (.ref l) (.ref s.heap.objs.size) = operate [.ref s.heap.objs.size, .ref l] (getItem (.ref l) (.ref s.heap.objs.size))) (ht : ∀ r, letTemporaryGo value (.ref l) r = pure ()) :
    wpAny (model prog w) A (subscriptTail value slice (.ref l) (.ref s.heap.objs.size)) Q E { s with heap := s.heap.push { cls := .type "slice", data := .fields #[.none, .int y t, .none] } } := by
  have e : kms_pick vs.toArray.toList none (some y) = vs.take y.toNat := by
    show (vs.drop (kms_lo none vs.length)).take (kms_hi (some y) vs.length - kms_lo none vs.length) = _
    simp only [kms_lo, kms_hi, if_neg (show ¬ y < 0 by omega), List.drop_zero, Nat.sub_zero]
    exact kmk_take_min _ _
  have hz' : vs.toArray.size ≤ sizeLine := by rw [List.size_toArray, hd.length]; exact Nat.le_trans hz (by decide)
  exact kms_slice_lit F N (News.isList N hm) .none (.int _ _) e (fun D h' F' N' l1 => h D _ h' F' N' l1 (dat_take _ hd)) hs ht hz'
theorem slice_from (F : Fr h₀ L s.heap m) (N : News h₀ L s.heap news) (hm : (l, listOf vs.toArray n) ∈ news) (hd : DatAll L9 vs ds) (hx : 0 ≤ x) (hz : ds.length ≤ 1000)
    (h : ∀ D us h', Fr h₀ L h' m → News h₀ L h' ((D, listOf (List.toArray us) 0) :: news) → (∀ p ∈ news, p.1 < D) → DatAll L9 us (ds.drop x.toNat) → Q (.ref D) { s with heap := h' })
    (hs : subscripted slice false (.ref l) (.ref s.heap.objs.size) = operate [.ref s.heap.objs.size, .ref l] (getItem (.ref l) (.ref s.heap.objs.size))) (ht : ∀ r, letTemporaryGo value (.ref l) r = pure ()) :
    wpAny (model prog w) A (subscriptTail value slice (.ref l) (.ref s.heap.objs.size)) Q E { s with heap := s.heap.push { cls := .type "slice", data := .fields #[.int x t, .none, .none] } } := by
  have e : kms_pick vs.toArray.toList (some x) none = vs.drop x.toNat := by
    show (vs.drop (kms_lo (some x) vs.length)).take (kms_hi none vs.length - kms_lo (some x) vs.length) = _
    simp only [kms_lo, kms_hi, if_neg (show ¬ x < 0 by omega)]
    rw [kmk_drop_min]
    exact List.take_of_length_le (by rw [List.length_drop]; omega)
  have hz' : vs.toArray.size ≤ sizeLine := by rw [List.size_toArray, hd.length]; exact Nat.le_trans hz (by decide)
  exact kms_slice_lit F N (News.isList N hm) (.int _ _) .none e (fun D h' F' N' l1 => h D _ h' F' N' l1 (dat_drop _ hd)) hs ht hz'
theorem head_item {x : Value} {u : Tok} (N : News h₀ L s.heap news) (hm : (l, listOf (List.toArray (x :: vs)) n) ∈ news) (h : Q x s)
    (hs : subscripted slice false (.ref l) (.int 0 u) = operate [.ref l, .int 0 u] (getItem (.ref l) (.int 0 u)) := by with_unfolding_all rfl) :
    wpAny (model prog w) A (subscriptTail value slice (.ref l) (.int 0 u)) Q E s :=
  item_litK (News.isList N hm) (by decide) (by decide) rfl h hs
theorem add_data {a b : Addr} {us : List Value} {es : List Dat} {k : Nat} (F : Fr h₀ L s.heap m) (N : News h₀ L s.heap news) (ha : (a, listOf vs.toArray n) ∈ news) (hb : (b, listOf us.toArray k) ∈ news) (hd : DatAll L9 vs ds) (he : DatAll L9 us es) (hz : ds.length + es.length ≤ 1000)
    (h : ∀ D zs h', Fr h₀ L h' m → News h₀ L h' ((D, listOf (List.toArray zs) 0) :: news) → (∀ p ∈ news, p.1 < D) → DatAll L9 zs (ds ++ es) → Q (.ref D) { s with heap := h' }) :
    wpAny (model prog w) A (binaryOp .Add (.ref a) (.ref b)) Q E s :=
  kmk_add_lit F N (News.isList N ha) (News.isList N hb) rfl (fun D h' F' N' l1 => h D _ h' F' N' l1 (hd.append he)) (by
    show vs.length + us.length ≤ sizeLine
    rw [hd.length, he.length]; exact Nat.le_trans hz (by decide))
end
end Mine
end
section
open PySem PySem.W PyProof.Rows
set_option maxRecDepth 100000
set_option maxHeartbeats 2000000
namespace Mine
local macro_rules | `(tactic| walk_at "eval Name") => `(tactic| (k_here; k_dflt (refine' ld ?k1 ?k2 ?_; (case k1 => k_asm); (case k2 => assumption); k_whole)))
theorem fill_So : (fun (_ : OpenLaw) (_ : Params → Frag) => True) PySem.Challenge.rw_dz0085_01 hd.heap_39 := by
  k_fill
  trivial
theorem sorted_call {prog : Program} {w : World} {p : Program} {loose : List Str} {mean : ExcName → Option Value} {mg mb : Str → Option Value} {keys : List (Int × Int)} {b : Bool} (hkeys : ∀ k ∈ keys, KeyOk k) : ∀ (f : Nat) (rows : List Dat) (dp un : Nat) (gd : Option (List Code)) (cn : Str) (cs : Scope) (a : Addr) (ccd : Value) (cl : List (Str × Addr)) (outer : List Env) (A₀ : Around) (base h₀ : Heap) (L : Addr) (m : Str → Option Value) (dl news : List (Addr × Obj)) (s : Shared)
    (jv : Value) (ra : Addr) (vs : List Value) (n : Nat) (Q E : Value → Shared → Prop),
    Below A₀ base outer h₀ → Fr h₀ L s.heap m → (hd.heap_39 w.params).In h₀ → News h₀ L s.heap news → Top p loose mean mg mb h₀ → cs.kind = .function →
    dp + f + 20 < recursionLimit → un + 8 * f + 400 < cLine → rows.length ≤ f + 1 → rows.length ≤ 24 → (∀ q ∈ dl, q ∈ news) → JudgeIn w dl jv keys → (ra, listOf vs.toArray n) ∈ news → DatAll dl vs rows → (∀ r ∈ rows, RowK b r) →
    (∀ D zs k tl h' tk', Fr h₀ L h' m → News h₀ L h' (tl ++ news) → (∀ q ∈ news, ∀ p ∈ tl, q.1 < p.1) → (D, listOf (List.toArray zs) k) ∈ tl ++ news → DatAll dl zs (sortF keys f rows) → Q (.ref D) { s with heap := h', toks := tk' }) →
    wpAny (model prog w) (ktrTop dp un gd cn cs L a ccd cl outer) (call (.ref 49) [.ref ra, jv]) Q E s := by
  w_top off
  intro f
  induction f with
  | zero =>
    intro rows dp un gd cn cs a ccd cl outer A₀ base h₀ L m dl news s jv ra vs n Q E B F X N T hk hdp hun hf h24 hdl J hra hvs hrows ret
    refine wpAny_call ?_
    k_dflt (refine' code_def (binds := [(Str.ofString "rows", .ref ra), (Str.ofString "judge", jv)]) B F X N T rfl rfl hk ?zk6 ?zk7 ?zk8 ?zk9 ?zkB ?zkk ?zc2 ?zc3 ?zc4 ?zc5)
    case zk6 => k_is
    case zk7 => k_is
    case zk8 => show dp < recursionLimit; omega
    case zk9 => exact BindsTo.of_eq rfl
    case zc5 => decide
    case zkB => exact locs rfl
    case zc2 => exact rfl
    case zc3 => exact rfl
    case zc4 => exact rfl
    intro g L' h' FG F' N' B' X' T'
    refine noE ?_
    have hlen := hvs.length
    iterate 9 walk1
    refine kd_len N' hra hvs (by omega) ?_
    iterate 2 walk1
    have hq : ((rows.length : Int) < 2) := by omega
    rw [decide_eq_true hq]
    iterate 6 walk1
    dsimp only
    walk1
    exact ret _ _ _ [] _ _ (by assumption) (by assumption) (fun _ _ _ h => nomatch h) hra hvs
  | succ f ih =>
  intro rows dp un gd cn cs a ccd cl outer A₀ base h₀ L m dl news s jv ra vs n Q E B F X N T hk hdp hun hf h24 hdl J hra hvs hrows ret
  refine wpAny_call ?_
  k_dflt (refine' code_def (binds := [(Str.ofString "rows", .ref ra), (Str.ofString "judge", jv)]) B F X N T rfl rfl hk ?k6 ?k7 ?k8 ?k9 ?kB ?kk ?c2 ?c3 ?c4 ?c5)
  case k6 => k_is
  case k7 => k_is
  case k8 => show dp < recursionLimit; omega
  case k9 => exact BindsTo.of_eq rfl
  case c5 => decide
  case kB => exact locs rfl
  case c2 => exact rfl
  case c3 => exact rfl
  case c4 => exact rfl
  intro g L' h' FG F' N' B' X' T'
  refine noE ?_
  have hlen := hvs.length
  iterate 9 walk1
  refine kd_len N' hra hvs (by omega) ?_
  iterate 2 walk1
  by_cases hlt : rows.length < 2
  · have hq : ((rows.length : Int) < 2) := by omega
    rw [decide_eq_true hq]
    iterate 6 walk1
    dsimp only
    walk1
    have e : sortF keys (f + 1) rows = rows := by rw [sortF, if_pos hlt]
    rw [e] at ret
    exact ret _ _ _ [] _ _ (by assumption) (by assumption) (fun _ _ _ h => nomatch h) hra hvs
  have hq : ¬ ((rows.length : Int) < 2) := by omega
  rw [decide_eq_false hq]
  iterate 13 walk1
  refine kd_len N' hra hvs (by omega) ?_
  iterate 17 walk1
  have hmid : Int.fdiv (rows.length : Int) 2 = ((rows.length / 2 : Nat) : Int) := by
    rw [Int.fdiv_eq_ediv_of_nonneg _ (by decide)]; omega
  rw [hmid]
  refine slice_upto (by assumption) (by assumption) hra hvs (by omega) (by omega) ?_ (by with_unfolding_all rfl) (by intro _; with_unfolding_all rfl)
  intro D₁ us₁ h₁ F₁ N₁ l₁ hus₁
  iterate 4 walk1
  rw [Int.toNat_natCast] at hus₁
  k_dflt (refine' ih (rows.take (rows.length / 2)) (dp + 1) (un + 3) gd _ _ _ _ _ _ _ _ _ _ _ dl _ _ jv D₁ us₁ 0 _ _ ?b1 ?b2 ?b3 ?b4 ?b5 ?b6 (by omega) (by omega) (by rw [List.length_take]; omega) (by rw [List.length_take]; omega) ?b7 J ?b8 hus₁ (fun r hr => hrows r (List.mem_of_mem_take hr)) ?_)
  case b1 => exact B'
  case b2 => exact F₁
  case b3 => exact X'
  case b4 => exact N₁
  case b5 => exact T'
  case b6 => exact rfl
  case b7 => exact fun q hq => List.mem_cons_of_mem _ (hdl q hq)
  case b8 => exact List.mem_cons_self
  intro D₂ zs₂ k₂ tl₂ h₂ tk₂ F₂ N₂ l₂ hD₂a hz₂
  obtain ⟨news₂, N₂, hs₂, hD₂⟩ : ∃ news₂, News g L' h₂ news₂ ∧ (∀ p ∈ news, p ∈ news₂) ∧ (D₂, listOf (List.toArray zs₂) k₂) ∈ news₂ := ⟨_, N₂, fun p hp => List.mem_append_right _ (List.mem_cons_of_mem _ hp), hD₂a⟩
  clear l₂ N₁ F₁ l₁ hD₂a
  iterate 15 walk1
  rw [hmid]
  refine slice_from (by assumption) (by assumption) (hs₂ _ hra) hvs (by omega) (by omega) ?_ (by with_unfolding_all rfl) (by intro _; with_unfolding_all rfl)
  intro D₃ us₃ h₃ F₃ N₃ l₃ hus₃
  iterate 4 walk1
  rw [Int.toNat_natCast] at hus₃
  k_dflt (refine' ih (rows.drop (rows.length / 2)) (dp + 1) (un + 3) gd _ _ _ _ _ _ _ _ _ _ _ dl _ _ jv D₃ us₃ 0 _ _ ?b1 ?b2 ?b3 ?b4 ?b5 ?b6 (by omega) (by omega) (by rw [List.length_drop]; omega) (by rw [List.length_drop]; omega) ?b7 J ?b8 hus₃ (fun r hr => hrows r (List.mem_of_mem_drop hr)) ?_)
  case b1 => exact B'
  case b2 => exact F₃
  case b3 => exact X'
  case b4 => exact N₃
  case b5 => exact T'
  case b6 => exact rfl
  case b7 => exact fun q hq => List.mem_cons_of_mem _ (hs₂ _ (hdl q hq))
  case b8 => exact List.mem_cons_self
  intro D₄ zs₄ k₄ tl₄ h₄ tk₄ F₄ N₄ l₄ hD₄a hz₄
  obtain ⟨news₄, N₄, hs₄, hD₂b, hD₄⟩ : ∃ news₄, News g L' h₄ news₄ ∧ (∀ p ∈ news, p ∈ news₄) ∧ (D₂, listOf (List.toArray zs₂) k₂) ∈ news₄ ∧ (D₄, listOf (List.toArray zs₄) k₄) ∈ news₄ := ⟨_, N₄, fun p hp => List.mem_append_right _ (List.mem_cons_of_mem _ (hs₂ p hp)), List.mem_append_right _ (List.mem_cons_of_mem _ hD₂), hD₄a⟩
  clear l₄ N₃ F₃ l₃ hs₂ hD₂ hD₄a
  have hD₂ := hD₂b
  clear hD₂b
  iterate 6 walk1
  refine newList_K (by assumption) (by assumption) (fun mgd hg Fg Ng lg => ?_) (by decide)
  walk1
  rename Fr _ _ _ _ => FX
  rename News _ _ _ _ => NX
  dsimp only
  refine wpAny_execs_cons (whl_start ((sortF keys f (rows.take (rows.length / 2))).length + (sortF keys f (rows.drop (rows.length / 2))).length + 1) ?_)
  generalize hS : Shared.mk _ _ _ _ _ = S
  obtain ⟨h₅, tk₅, m₅, eS, F₅, N₅, e1, e2, e3, e4⟩ : ∃ h tk m₁, S = { s with heap := h, toks := tk } ∧ Fr g L' h m₁ ∧ News g L' h ((mgd, listOf (List.toArray []) 0) :: news₄) ∧ m₁ (Str.ofString "left") = some (.ref D₂) ∧ m₁ (Str.ofString "right") = some (.ref D₄) ∧ m₁ (Str.ofString "merged") = some (.ref mgd) ∧ m₁ (Str.ofString "judge") = some jv :=
    ⟨_, _, _, hS.symm, FX, NX, rfl, rfl, rfl, rfl⟩
  clear hS FX NX
  have hout : sortF keys (f + 1) rows = mergeD keys (sortF keys f (rows.take (rows.length / 2))) (sortF keys f (rows.drop (rows.length / 2))) := by rw [sortF, if_neg hlt]
  rw [hout] at ret
  have hll : ∀ r ∈ sortF keys f (rows.take (rows.length / 2)), RowK b r := fun r hr => hrows r (List.mem_of_mem_take (sortF_mem _ _ _ _ hr))
  have hrr : ∀ r ∈ sortF keys f (rows.drop (rows.length / 2)), RowK b r := fun r hr => hrows r (List.mem_of_mem_drop (sortF_mem _ _ _ _ hr))
  have hsz : (sortF keys f (rows.take (rows.length / 2))).length + (sortF keys f (rows.drop (rows.length / 2))).length ≤ 24 := by
    rw [sortF_length, sortF_length, List.length_take, List.length_drop]; omega
  clear hout
  generalize sortF keys f (rows.take (rows.length / 2)) = lefts at *
  generalize sortF keys f (rows.drop (rows.length / 2)) = rights at *
  obtain ⟨out, ho⟩ : ∃ out, out = mergeD keys lefts rights := ⟨_, rfl⟩
  rw [← ho] at ret
  obtain ⟨ms, hms⟩ : ∃ ms : List Value, ms = [] := ⟨_, rfl⟩
  rw [← hms] at N₅
  have hmd : DatAll dl ms [] := by rw [hms]; exact .nil
  clear hms
  obtain ⟨mds, hmds⟩ : ∃ mds : List Dat, mds = [] := ⟨_, rfl⟩
  rw [← hmds] at hmd
  have ho' : out = mds ++ mergeD keys lefts rights := by rw [hmds]; exact ho
  have hsz' : mds.length + lefts.length + rights.length ≤ 24 := by rw [hmds, List.length_nil]; omega
  clear hmds ho hsz
  obtain ⟨kM, hkM⟩ : ∃ k : Nat, k = 0 := ⟨_, rfl⟩
  rw [← hkM] at N₅
  clear hkM
  have hne : ∀ p ∈ news₄, p.1 ≠ mgd := fun p hp => Nat.ne_of_lt (lg p hp)
  have hmn : ∀ q ∈ news, q.1 < mgd := fun q hq => lg q (hs₄ q hq)
  clear lg
  generalize hn : lefts.length + rights.length + 1 = n
  have hln : lefts.length + rights.length < n := by omega
  clear hn
  clear hra hvs hlen hus₁ hus₃ hmid hq hlt hf h24 hrows ih
  induction n generalizing lefts rights ms mds kM zs₂ k₂ D₂ zs₄ k₄ D₄ news₄ S h₅ tk₅ m₅ with
  | zero => omega
  | succ n ihw =>
  refine whl_turn PassesOwn.never ?_
  subst eS
  iterate 3 walk1
  refine wpAny_truthy_list (News.isList N₅ (List.mem_cons_of_mem _ hD₂)) (by rw [List.size_toArray, hz₂.length]; omega) ?_
  cases lefts with
  | nil =>
    cases hz₂
    have hz₂ : DatAll dl [] [] := .nil
    rw [show (!(List.toArray ([] : List Value)).isEmpty) = false from rfl]
    iterate 4 walk1
    dsimp only
    iterate 6 walk1
    refine add_data F₅ N₅ List.mem_cons_self (List.mem_cons_of_mem _ hD₂) hmd hz₂ (by simp only [List.length_nil, List.length_cons] at hsz' ⊢; omega) ?_
    intro D₆ zs₆ h₆ F₆ N₆ l₆ hz₆
    iterate 1 walk1
    refine add_data F₆ N₆ List.mem_cons_self (List.mem_cons_of_mem _ (List.mem_cons_of_mem _ hD₄)) hz₆ hz₄ (by simp only [List.length_append, List.length_nil, List.length_cons] at hsz' ⊢; omega) ?_
    intro D₇ zs₇ h₇ F₇ N₇ l₇ hz₇
    dsimp only
    refine leaveK_ (news' := (D₇, listOf (List.toArray zs₇) 0) :: news) F₇ (fun q hq => ?_) (fun F₈ N₈ => ?_)
    · rcases List.mem_cons.mp hq with rfl | hq
      · exact N₇ _ List.mem_cons_self
      · exact N₇ _ (List.mem_cons_of_mem _ (List.mem_cons_of_mem _ (List.mem_cons_of_mem _ (hs₄ q hq))))
    dsimp only
    refine ret D₇ zs₇ 0 [(D₇, listOf (List.toArray zs₇) 0)] _ _ F₈ N₈ (fun q hq p hp => ?_) List.mem_cons_self ?_
    · rw [List.mem_singleton.mp hp]
      exact l₇ q (List.mem_cons_of_mem _ (List.mem_cons_of_mem _ (hs₄ q hq)))
    · rw [ho', mergeD]
      simpa using hz₇
  | cons x lefts =>
  cases hz₂ with
  | @cons xv lvs _ _ hxv hlvs =>
  rw [show (!(List.toArray (xv :: lvs)).isEmpty) = true from rfl]
  iterate 4 walk1
  refine wpAny_truthy_list (News.isList N₅ (List.mem_cons_of_mem _ hD₄)) (by rw [List.size_toArray, hz₄.length]; omega) ?_
  have hz₂ : DatAll dl (xv :: lvs) (x :: lefts) := .cons hxv hlvs
  cases rights with
  | nil =>
    cases hz₄
    have hz₄ : DatAll dl [] [] := .nil
    rw [show (!(List.toArray ([] : List Value)).isEmpty) = false from rfl]
    iterate 4 walk1
    dsimp only
    iterate 6 walk1
    refine add_data F₅ N₅ List.mem_cons_self (List.mem_cons_of_mem _ hD₂) hmd hz₂ (by simp only [List.length_nil, List.length_cons] at hsz' ⊢; omega) ?_
    intro D₆ zs₆ h₆ F₆ N₆ l₆ hz₆
    iterate 1 walk1
    refine add_data F₆ N₆ List.mem_cons_self (List.mem_cons_of_mem _ (List.mem_cons_of_mem _ hD₄)) hz₆ hz₄ (by simp only [List.length_append, List.length_nil, List.length_cons] at hsz' ⊢; omega) ?_
    intro D₇ zs₇ h₇ F₇ N₇ l₇ hz₇
    dsimp only
    refine leaveK_ (news' := (D₇, listOf (List.toArray zs₇) 0) :: news) F₇ (fun q hq => ?_) (fun F₈ N₈ => ?_)
    · rcases List.mem_cons.mp hq with rfl | hq
      · exact N₇ _ List.mem_cons_self
      · exact N₇ _ (List.mem_cons_of_mem _ (List.mem_cons_of_mem _ (List.mem_cons_of_mem _ (hs₄ q hq))))
    dsimp only
    refine ret D₇ zs₇ 0 [(D₇, listOf (List.toArray zs₇) 0)] _ _ F₈ N₈ (fun q hq p hp => ?_) List.mem_cons_self ?_
    · rw [List.mem_singleton.mp hp]
      exact l₇ q (List.mem_cons_of_mem _ (List.mem_cons_of_mem _ (hs₄ q hq)))
    · rw [ho', mergeD_nil_right]
      simpa using hz₇
  | cons y rights =>
  cases hz₄ with
  | @cons yv rvs _ _ hyv hrvs =>
  rw [show (!(List.toArray (yv :: rvs)).isEmpty) = true from rfl]
  iterate 3 walk1
  obtain ⟨j, dj, tj, tkj, rfl, hj1, hj2⟩ := J.inst
  replace hj1 := hs₄ _ (hdl _ hj1)
  replace hj2 := hs₄ _ (hdl _ hj2)
  iterate 5 walk1
  k_dflt (refine' method_inst (f := 35) F₅ X' (InstAt.of_news N₅ (List.mem_cons_of_mem _ hj1) (List.mem_cons_of_mem _ hj2)) ?m1 ?m2 ?m3 ?m4 ?_)
  case m1 => k_is
  case m2 => k_is
  case m3 => k_is
  case m4 => k_get
  iterate 5 walk1
  refine head_item N₅ (List.mem_cons_of_mem _ hD₂) ?_
  iterate 4 walk1
  refine head_item N₅ (List.mem_cons_of_mem _ hD₄) ?_
  iterate 2 walk1
  have hsub : ∀ q ∈ dl, q ∈ (mgd, listOf (List.toArray ms) kM) :: news₄ := fun q hq => List.mem_cons_of_mem _ (hs₄ _ (hdl q hq))
  k_dflt (refine' compare_call (b := b) (keys := keys) (l := x) (r := y) (dp + 1) (un + 3) gd _ _ _ _ _ _ _ _ _ _ _ _ _ ?b1 ?b2 ?b3 ?b4 ?b5 ?b6 (by omega) (by omega) ?b7 ?b8 ?b9 (hll x List.mem_cons_self) (hrr y List.mem_cons_self) hkeys ?_)
  case b1 => exact B'
  case b2 => exact F₅
  case b3 => exact X'
  case b4 => exact N₅
  case b5 => exact T'
  case b6 => exact rfl
  case b7 => exact J.mono hsub
  case b8 => exact hxv.mono hsub
  case b9 => exact hyv.mono hsub
  intro tc h₆ tk₆ F₆ N₆
  clear F₅ N₅
  iterate 3 walk1
  by_cases hgt : 0 < cmpD keys x y
  · rw [decide_eq_true hgt]
    iterate 12 walk1
    refine head_item N₆ (List.mem_cons_of_mem _ hD₄) ?_
    iterate 1 walk1
    refine append_K F₆ N₆ (Upd.head hne) (fun h₇ F₇ N₇ => ?_) (by rw [List.size_toArray, hmd.length]; exact Nat.le_trans (show mds.length ≤ 24 by omega) (by decide))
    clear F₆ N₆
    rw [List.push_toArray] at N₇
    iterate 10 walk1
    refine slice_from F₇ N₇ (List.mem_cons_of_mem _ hD₄) (.cons hyv hrvs) (by decide) (by simp only [List.length_cons] at hsz' ⊢; omega) ?_ (by with_unfolding_all rfl) (by intro _; with_unfolding_all rfl)
    intro D₈ us₈ h₈ F₈ N₈ l₈ hus₈
    clear F₇ N₇
    iterate 3 walk1
    dsimp only [WhlPost]
    refine ihw D₂ _ _ D₈ _ _ ((D₈, listOf (List.toArray us₈) 0) :: news₄) (fun p hp => List.mem_cons_of_mem _ (hs₄ p hp)) List.mem_cons_self (List.mem_cons_of_mem _ hD₂) _ _ _ _ rfl (by assumption) ?_ ?_ ?_ ?_ (x :: lefts) (.cons hxv hlvs) hll rights hus₈ (fun r hr => hrr r (List.mem_cons_of_mem _ hr)) (ms ++ [yv]) (mds ++ [y]) (hmd.append (.one hyv)) ?_ ?_ (kM + 1) ?_ ?_ ?_
    · exact e1
    · exact rfl
    · exact e3
    · exact e4
    · rw [ho', mergeD, if_pos hgt, List.append_assoc]; rfl
    · simp only [List.length_append, List.length_cons, List.length_nil] at hsz' ⊢; omega
    · intro p hp
      rename News _ _ _ _ => NL
      rcases List.mem_cons.mp hp with rfl | hp
      · exact NL _ (List.mem_cons_of_mem _ List.mem_cons_self)
      · rcases List.mem_cons.mp hp with rfl | hp
        · exact NL _ List.mem_cons_self
        · exact NL _ (List.mem_cons_of_mem _ (List.mem_cons_of_mem _ hp))
    · intro p hp
      rcases List.mem_cons.mp hp with rfl | hp
      · exact Nat.ne_of_gt (l₈ _ List.mem_cons_self)
      · exact hne p hp
    · simp only [List.length_cons] at hln ⊢; omega
  · rw [decide_eq_false hgt]
    iterate 12 walk1
    refine head_item N₆ (List.mem_cons_of_mem _ hD₂) ?_
    iterate 1 walk1
    refine append_K F₆ N₆ (Upd.head hne) (fun h₇ F₇ N₇ => ?_) (by rw [List.size_toArray, hmd.length]; exact Nat.le_trans (show mds.length ≤ 24 by omega) (by decide))
    clear F₆ N₆
    rw [List.push_toArray] at N₇
    iterate 10 walk1
    refine slice_from F₇ N₇ (List.mem_cons_of_mem _ hD₂) (.cons hxv hlvs) (by decide) (by simp only [List.length_cons] at hsz' ⊢; omega) ?_ (by with_unfolding_all rfl) (by intro _; with_unfolding_all rfl)
    intro D₈ us₈ h₈ F₈ N₈ l₈ hus₈
    clear F₇ N₇
    iterate 3 walk1
    dsimp only [WhlPost]
    refine ihw D₈ _ _ D₄ _ _ ((D₈, listOf (List.toArray us₈) 0) :: news₄) (fun p hp => List.mem_cons_of_mem _ (hs₄ p hp)) (List.mem_cons_of_mem _ hD₄) List.mem_cons_self _ _ _ _ rfl (by assumption) ?_ ?_ ?_ ?_ lefts hus₈ (fun r hr => hll r (List.mem_cons_of_mem _ hr)) (y :: rights) (.cons hyv hrvs) hrr (ms ++ [xv]) (mds ++ [x]) (hmd.append (.one hxv)) ?_ ?_ (kM + 1) ?_ ?_ ?_
    · exact rfl
    · exact e2
    · exact e3
    · exact e4
    · rw [ho', mergeD, if_neg hgt, List.append_assoc]; rfl
    · simp only [List.length_append, List.length_cons, List.length_nil] at hsz' ⊢; omega
    · intro p hp
      rename News _ _ _ _ => NL
      rcases List.mem_cons.mp hp with rfl | hp
      · exact NL _ (List.mem_cons_of_mem _ List.mem_cons_self)
      · rcases List.mem_cons.mp hp with rfl | hp
        · exact NL _ List.mem_cons_self
        · exact NL _ (List.mem_cons_of_mem _ (List.mem_cons_of_mem _ hp))
    · intro p hp
      rcases List.mem_cons.mp hp with rfl | hp
      · exact Nat.ne_of_gt (l₈ _ List.mem_cons_self)
      · exact hne p hp
    · simp only [List.length_cons] at hln ⊢; omega
end Mine
end
section
open PySem PySem.W PyProof.Rows
set_option maxRecDepth 100000
namespace Mine
section
variable {n : Nat} {lt : Nat → Nat → Bool} {cmp : Nat → Nat → (Bool → Shared → Prop) → Shared → Prop} {s : Shared}
/-- an order of the places below n -/
structure Ord (n : Nat) (lt : Nat → Nat → Bool) : Prop where
  tri : ∀ i j, i < n → j < n → i ≠ j → lt i j = false → lt j i = true
  asym : ∀ i j, i < n → j < n → lt i j = true → lt j i = false
  trans : ∀ i j k, i < n → j < n → k < n → lt i j = true → lt j k = true → lt i k = true
def Asks (n : Nat) (lt : Nat → Nat → Bool) (cmp : Nat → Nat → (Bool → Shared → Prop) → Shared → Prop) (s : Shared) : Prop := ∀ i j C, i < n → j < n → C (lt i j) s → cmp i j C s
structure Pm (n : Nat) (p : Array Nat) : Prop where
  size : p.size = n
  lt : ∀ i, i < n → p.getD i 0 < n
  inj : ∀ i j, i < n → j < n → p.getD i 0 = p.getD j 0 → i = j
theorem getD_of {p : Array Nat} {i v : Nat} (h : p[i]? = some v) : p.getD i 0 = v := by
  rw [Array.getD_eq_getD_getElem?, h]; rfl
theorem getD_at {p : Array Nat} {i : Nat} (h : i < p.size) : p[i]? = some (p.getD i 0) := by
  rw [Array.getD_eq_getD_getElem?, Array.getElem?_eq_getElem h]; rfl
theorem Pm.of_perm {p : Array Nat} (h : p.toList.Perm (List.range n)) : Pm n p := by
  have hs : p.size = n := by have := h.length_eq; simpa using this
  have hn : p.toList.Nodup := h.nodup_iff.mpr List.nodup_range
  refine ⟨hs, fun i hi => ?_, fun i j hi hj e => ?_⟩
  · have h1 : p.getD i 0 ∈ p.toList := by
      have := getD_at (p := p) (i := i) (by omega)
      rw [← Array.getElem?_toList] at this
      exact List.mem_of_getElem? this
    exact List.mem_range.mp (h.mem_iff.mp h1)
  · have a := getD_at (p := p) (i := i) (by omega)
    have b := getD_at (p := p) (i := j) (by omega)
    rw [e, ← b, ← Array.getElem?_toList, ← Array.getElem?_toList] at a
    exact (List.getElem?_inj (by simpa using (by omega : i < p.size)) hn).mp a
def Up (lt : Nat → Nat → Bool) (p : Array Nat) (k : Nat) : Prop := ∀ i j, i < j → j < k → lt (p.getD i 0) (p.getD j 0) = true
def Down (lt : Nat → Nat → Bool) (p : Array Nat) (k : Nat) : Prop := ∀ i j, i < j → j < k → lt (p.getD j 0) (p.getD i 0) = true
theorem Up.snoc {p : Array Nat} {k : Nat} (O : Ord n lt) (P : Pm n p) (U : Up lt p k) (hk : k < n) (h : lt (p.getD (k - 1) 0) (p.getD k 0) = true) : Up lt p (k + 1) := by
  intro i j hij hj
  by_cases e : j = k
  · subst e
    by_cases e : i = j - 1
    · rw [e]; exact h
    · exact O.trans _ _ _ (P.lt _ (by omega)) (P.lt _ (by omega)) (P.lt _ hk) (U i (j - 1) (by omega) (by omega)) h
  · exact U i j hij (by omega)
theorem Down.snoc {p : Array Nat} {k : Nat} (O : Ord n lt) (P : Pm n p) (U : Down lt p k) (hk : k < n) (h : lt (p.getD k 0) (p.getD (k - 1) 0) = true) : Down lt p (k + 1) := by
  intro i j hij hj
  by_cases e : j = k
  · subst e
    by_cases e : i = j - 1
    · rw [e]; exact h
    · exact O.trans _ _ _ (P.lt _ hk) (P.lt _ (by omega)) (P.lt _ (by omega)) h (U i (j - 1) (by omega) (by omega))
  · exact U i j hij (by omega)
theorem Up.one {p : Array Nat} : Up lt p 1 := fun i j h1 h2 => by omega
theorem Down.one {p : Array Nat} : Down lt p 1 := fun i j h1 h2 => by omega
theorem asc_ok (O : Ord n lt) (C : Asks n lt cmp s) {p : Array Nat} (P : Pm n p) : ∀ (f a : Nat) (Q : Nat → Shared → Prop), 1 ≤ a → a + f = n → Up lt p a → (∀ m, a ≤ m → m ≤ n → Up lt p m → (m < n → lt (p.getD m 0) (p.getD (m - 1) 0) = true) → Q m s) → (kas_asc p f a).kasWp cmp Q s
  | 0, a, Q, _, h, U, hq => hq a (Nat.le_refl _) (by omega) U (by omega)
  | f + 1, a, Q, h1, h, U, hq => by
    show cmp _ _ _ s
    refine C _ _ _ (P.lt _ (by omega)) (P.lt _ (by omega)) ?_
    cases hc : lt (p.getD a 0) (p.getD (a - 1) 0) with
    | true => exact hq a (Nat.le_refl _) (by omega) U (fun _ => hc)
    | false =>
      have ht := O.tri _ _ (P.lt _ (by omega)) (P.lt _ (by omega)) (fun e => by have := P.inj _ _ (by omega) (by omega) e; omega) hc
      simp only [Bool.false_eq_true, if_false]
      exact asc_ok O C P f (a + 1) Q (by omega) (by omega) (U.snoc O P (by omega) ht) (fun m h1 h2 h3 h4 => hq m (by omega) h2 h3 h4)
theorem desc_ok (O : Ord n lt) (C : Asks n lt cmp s) {p : Array Nat} (P : Pm n p) : ∀ (f a : Nat) (Q : Array Nat × Nat × Nat → Shared → Prop), 1 ≤ a → a + f = n → Down lt p a → (∀ m, a ≤ m → m ≤ n → Down lt p m → Q (p, m, 0) s) → (kas_desc f p a 0).kasWp cmp Q s
  | 0, a, Q, _, h, U, hq => hq a (Nat.le_refl _) (by omega) U
  | f + 1, a, Q, h1, h, U, hq => by
    show cmp _ _ _ s
    refine C _ _ _ (P.lt _ (by omega)) (P.lt _ (by omega)) ?_
    cases hc : lt (p.getD a 0) (p.getD (a - 1) 0) with
    | true =>
      simp only [if_true, Nat.lt_irrefl, gt_iff_lt, if_false]
      exact desc_ok O C P f (a + 1) Q (by omega) (by omega) (U.snoc O P (by omega) hc) (fun m h1 h2 h3 => hq m (by omega) h2 h3)
    | false =>
      simp only [Bool.false_eq_true, if_false]
      show cmp _ _ _ s
      refine C _ _ _ (P.lt _ (by omega)) (P.lt _ (by omega)) ?_
      have ht := O.tri _ _ (P.lt _ (by omega)) (P.lt _ (by omega)) (fun e => by have := P.inj _ _ (by omega) (by omega) e; omega) hc
      rw [ht]
      exact hq a (Nat.le_refl _) (by omega) U
theorem rev_get {p : Array Nat} {k : Nat} (hk : k ≤ p.size) (i : Nat) : (kas_rev p 0 k).getD i 0 = if i < k then p.getD (k - 1 - i) 0 else p.getD i 0 := by
  have := getElem?_mirror_all (xs := p) (i := 0) hk i
  unfold kas_rev
  rw [Array.getD_eq_getD_getElem?, this]
  by_cases h : i < k
  · rw [if_pos ⟨Nat.zero_le _, h⟩, if_pos h, Array.getD_eq_getD_getElem?]; congr 2; omega
  · rw [if_neg (by omega), if_neg h, Array.getD_eq_getD_getElem?]
theorem Down.rev {p : Array Nat} {k : Nat} (hk : k ≤ p.size) (D : Down lt p k) : Up lt (kas_rev p 0 k) k := by
  intro i j hij hj
  rw [rev_get hk, rev_get hk, if_pos (by omega), if_pos hj]
  exact D _ _ (by omega) (by omega)
theorem rev_perm {p : Array Nat} {k : Nat} (h : p.toList.Perm (List.range n)) : (kas_rev p 0 k).toList.Perm (List.range n) := by
  have := mirror_perm p 0 k ((k - 0) / 2)
  exact (Array.perm_iff_toList_perm.mp this).trans h
theorem count_ok (O : Ord n lt) (C : Asks n lt cmp s) {p : Array Nat} (h0 : p.toList.Perm (List.range n)) (h2 : 2 ≤ n) (Q : Nat × Array Nat → Shared → Prop)
    (hq : ∀ m p', 1 ≤ m → m ≤ n → p'.toList.Perm (List.range n) → Up lt p' m → Q (m, p') s) : (kas_count n p).kasWp cmp Q s := by
  have P := Pm.of_perm h0
  unfold kas_count
  rw [KasT.kasWp_bind]
  refine asc_ok O C P (n - 1) 1 _ (Nat.le_refl _) (by omega) Up.one (fun m h1 hm U hlt => ?_)
  have dp : m < n → m = 1 → (kas_descPart m n p).kasWp cmp Q s := by
    intro hmn e
    subst e
    unfold kas_descPart
    rw [KasT.kasWp_bind]
    have hd := hlt hmn
    refine desc_ok O C P (n - (1 + 1)) (1 + 1) _ (by omega) (by omega) (Down.one.snoc O P hmn hd) (fun k k1 k2 D => ?_)
    simp only [gt_iff_lt, Nat.lt_irrefl, if_false]
    unfold kas_tail3
    rw [KasT.kasWp_bind]
    have h0' := rev_perm (k := k) h0
    have P' := Pm.of_perm h0'
    refine asc_ok O C P' (n - k) k _ (by omega) (by omega) (D.rev (by rw [P.size]; exact k2)) (fun m' m1 m2 U' _ => ?_)
    exact hq m' _ (by omega) m2 h0' U'
  by_cases e : m = n
  · rw [if_pos (by simpa using e)]
    exact hq m p h1 hm h0 U
  · rw [if_neg (by simpa using e)]
    by_cases e1 : m > 1
    · rw [if_pos e1]
      show cmp _ _ _ s
      refine C _ _ _ (P.lt _ (by omega)) (P.lt _ (by omega)) ?_
      rw [U 0 (m - 1) (by omega) (by omega)]
      exact hq m p h1 hm h0 U
    · rw [if_neg e1]
      exact dp (by omega) (by omega)
theorem place_ok (O : Ord n lt) (C : Asks n lt cmp s) {p : Array Nat} (P : Pm n p) {k : Nat} (hk : k < n) (U : Up lt p k) : ∀ (f l r : Nat) (Q : Nat → Shared → Prop), l ≤ r → r ≤ k → r - l ≤ f →
    (∀ i, i < l → lt (p.getD i 0) (p.getD k 0) = true) → (∀ i, r ≤ i → i < k → lt (p.getD k 0) (p.getD i 0) = true) →
    (∀ q, q ≤ k → (∀ i, i < q → lt (p.getD i 0) (p.getD k 0) = true) → (∀ i, q ≤ i → i < k → lt (p.getD k 0) (p.getD i 0) = true) → Q q s) → (kas_place p k f l r).kasWp cmp Q s
  | 0, l, r, Q, h1, h2, h3, ha, hb, hq => hq l (by omega) ha (fun i hi => hb i (by omega))
  | f + 1, l, r, Q, h1, h2, h3, ha, hb, hq => by
    unfold kas_place
    by_cases e : l ≥ r
    · rw [if_pos e]
      exact hq l (by omega) ha (fun i hi => hb i (by omega))
    · rw [if_neg e]
      show cmp _ _ _ s
      refine C _ _ _ (P.lt _ hk) (P.lt _ (by omega)) ?_
      cases hc : lt (p.getD k 0) (p.getD ((l + r) / 2) 0) with
      | true =>
        refine place_ok O C P hk U f l ((l + r) / 2) Q (by omega) (by omega) (by omega) ha (fun i hi hik => ?_) hq
        by_cases e : i = (l + r) / 2
        · rw [e]; exact hc
        · exact O.trans _ _ _ (P.lt _ hk) (P.lt _ (by omega)) (P.lt _ (by omega)) hc (U _ i (by omega) hik)
      | false =>
        have ht := O.tri _ _ (P.lt _ hk) (P.lt _ (by omega)) (fun e => by have := P.inj _ _ hk (by omega) e; omega) hc
        simp only [Bool.false_eq_true, if_false]
        refine place_ok O C P hk U f ((l + r) / 2 + 1) r Q (by omega) h2 (by omega) (fun i hi => ?_) hb hq
        by_cases e : i = (l + r) / 2
        · rw [e]; exact ht
        · exact O.trans _ _ _ (P.lt _ (by omega)) (P.lt _ (by omega)) (P.lt _ hk) (U i _ (by omega) (by omega)) ht
theorem bubble_get {p : Array Nat} {k q : Nat} (hk : k < p.size) (hq : q ≤ k) (i : Nat) : (bubble p k (k - q)).getD i 0 = if i = q then p.getD k 0 else if q < i ∧ i ≤ k then p.getD (i - 1) 0 else p.getD i 0 := by
  have := getElem?_bubble (xs := p) hk (k - q) (by omega) i
  have e : k - (k - q) = q := by omega
  rw [e] at this
  rw [Array.getD_eq_getD_getElem?, this]
  by_cases e1 : i = q
  · rw [if_pos e1, if_pos e1, Array.getD_eq_getD_getElem?]
  · rw [if_neg e1, if_neg e1]
    by_cases e2 : q < i ∧ i ≤ k
    · rw [if_pos e2, if_pos e2, Array.getD_eq_getD_getElem?]
    · rw [if_neg e2, if_neg e2, Array.getD_eq_getD_getElem?]
theorem bin_ok (O : Ord n lt) (C : Asks n lt cmp s) : ∀ (f k : Nat) (p : Array Nat) (Q : Array Nat → Shared → Prop), k + f = n → p.toList.Perm (List.range n) → Up lt p k →
    (∀ p', p'.toList.Perm (List.range n) → Up lt p' n → Q p' s) → (kas_bin f p k).kasWp cmp Q s
  | 0, k, p, Q, h, h0, U, hq => hq p h0 (by rw [← h]; exact U)
  | f + 1, k, p, Q, h, h0, U, hq => by
    have P := Pm.of_perm h0
    unfold kas_bin
    rw [KasT.kasWp_bind]
    refine place_ok O C P (by omega) U k 0 k _ (by omega) (by omega) (by omega) (fun i hi => by omega) (fun i h1 h2 => by omega) (fun q hqk ha hb => ?_)
    have h0' : (bubble p k (k - q)).toList.Perm (List.range n) := (Array.perm_iff_toList_perm.mp (bubble_perm p k (k - q))).trans h0
    refine bin_ok O C f (k + 1) _ Q (by omega) h0' (fun i j hij hj => ?_) hq
    have hks : k < p.size := by rw [P.size]; omega
    rw [bubble_get hks hqk, bubble_get hks hqk]
    by_cases e1 : i = q
    · rw [if_pos e1, if_neg (by omega), if_pos (by omega)]
      exact hb _ (by omega) (by omega)
    · rw [if_neg e1]
      by_cases e2 : q < i ∧ i ≤ k
      · rw [if_pos e2, if_neg (by omega), if_pos (by omega)]
        exact U _ _ (by omega) (by omega)
      · rw [if_neg e2]
        by_cases e3 : j = q
        · rw [if_pos e3]
          exact ha _ (by omega)
        · rw [if_neg e3]
          by_cases e4 : q < j ∧ j ≤ k
          · rw [if_pos e4]
            exact U _ _ (by omega) (by omega)
          · rw [if_neg e4]
            exact U _ _ (by omega) (by omega)
/-- the sort gives the places in order -/
theorem sort_ok (O : Ord n lt) (C : Asks n lt cmp s) (h2 : 2 ≤ n) (Q : Array Nat → Shared → Prop) (hq : ∀ p, p.toList.Perm (List.range n) → Up lt p n → Q p s) : (kas_sort n).kasWp cmp Q s := by
  unfold kas_sort
  rw [KasT.kasWp_bind]
  refine count_ok O C (List.Perm.refl _) h2 _ (fun m p' h1 hm h0 U => ?_)
  dsimp only
  by_cases e : m < n
  · rw [if_pos e, Nat.max_eq_left h1]
    exact bin_ok O C (n - m) m p' Q (by omega) h0 U hq
  · rw [if_neg e]
    have e : m = n := by omega
    exact hq p' h0 (e ▸ U)
end
end Mine
end
section
open PySem PySem.W PyProof.Rows PySem.Calls
set_option maxRecDepth 100000
namespace Mine
section
variable {prog : Program} {w : World} {A : Around} {E : Value → Shared → Prop} {s : Shared} {h₀ : Heap} {L a : Addr} {m : Str → Option Value} {news : List (Addr × Obj)} {vs : List Value}
/-- none or one item, zipped with itself -/
theorem zip_short (h1 : vs.length < 2) : (vs.toArray.zip vs.toArray).map (·.2) = vs.toArray :=
  match vs, h1 with
  | [], _ => by simp
  | [_], _ => by simp
/-- list.sort of none or one item asks nothing of it, whatever it is -/
theorem short_in_place {n : Nat} {P : PySem.Fin → Shared → Prop} (at_a : s.heap.get? a = some (seqObj "list" vs.toArray n)) (h1 : vs.length < 2)
    (q : P (.done (.ret .none)) { s with heap := sortedHeap s.heap a vs vs.toArray }) : wpAny (model prog w) A (Builtin.«list.sort» ⟨[.ref a], []⟩) P E s := by
  have two : vs.toArray.size < 2 := h1
  have fit : vs.toArray.size ≤ sizeLine := Nat.le_trans (Nat.le_of_lt two) (by rw [sizeLine_eq]; decide)
  obtain ⟨k, bare⟩ : ∃ k, (s.heap.update a (Obj.mapSeq fun _ => #[])).get? a = some (seqObj "list" #[] k) := ⟨_, get?_update_seq at_a _⟩
  have bare' : ∀ x y, (((s.heap.update a (Obj.mapSeq fun _ => #[])).push x).push y).get? a = some (seqObj "list" #[] k) := fun x y => Heap.get?_push_of_some y (Heap.get?_push_of_some x bare)
  rw [list_sort_plain]
  refine wpAny_bind (listItems_at at_a rfl (wpAny_bind (listUpdate_at at_a rfl (wpAny_bind (seqEpoch_at bare rfl (wpAny_bind (wpAny_newTuple (wpAny_bind (wpAny_newList (wpAny_holding ?_) (Nat.zero_le _))) fit)))) fit (Nat.zero_le _))))
  dsimp only
  rw [if_pos two, if_pos two]
  refine wpAny_bind (wpAny_pure (wpAny_bind (wpAny_pure (wpAny_bind (seqEpoch_at (bare' _ _) rfl (wpAny_bind (listUpdate_at (bare' _ _) rfl ?_ (Nat.zero_le _) ?_)))))))
  · rw [bne_self_eq_false]
    refine wpAny_pure ?_
    have e := zip_short h1
    show P _ { s with heap := sortedHeap s.heap a vs ((vs.toArray.zip vs.toArray).map (·.2)) }
    rw [e]
    exact q
  · show ((vs.toArray.zip vs.toArray).map (·.2)).size ≤ _
    rw [zip_short h1]
    exact Nat.le_succ_of_le fit
/-- sorted of none or one item -/
theorem short_sorted {l : Addr} {Q : Value → Shared → Prop} (F : Fr h₀ L s.heap m) (N : News h₀ L s.heap news) (hl : s.heap.IsList l vs.toArray) (h1 : vs.length < 2)
    (h : ∀ D c h', Fr h₀ L h' m → News h₀ L h' ((D, listOf vs.toArray c) :: news) → (∀ q ∈ news, q.1 < D) → Q (.ref D) { s with heap := h' }) :
    wpAny (model prog w) A (call (.builtin "sorted") [.ref l]) Q E s := by
  obtain ⟨c, made⟩ := sortedAll_at s.heap vs vs.toArray
  have done : Q (.ref (s.heap.objs.size + 1)) { s with heap := sortedAll s.heap vs vs.toArray } :=
    h _ c _ (F.kept fun _ _ => sortedAll_old) (N.kept_cons F (fun _ _ => sortedAll_old) (Nat.le_succ _) made) fun q hq => Nat.lt_succ_of_lt (Heap.lt_size (N q hq).1)
  have fit : vs.length ≤ sizeLine := Nat.le_trans (Nat.le_of_lt h1) (by rw [sizeLine_eq]; decide)
  have size : ((s.heap.push (seqObj "list" #[] 0)).update s.heap.objs.size (Obj.mapSeq (· ++ vs.toArray))).objs.size = s.heap.objs.size + 1 := (Heap.size_update ..).trans (size_push' ..)
  refine call_function_entry kind_sorted plain_sorted entry_sorted (args_sorted1 _) (show wpAny _ _ (Builtin.«sorted» _) _ _ s from ?_)
  delta Builtin.«sorted»
  refine wpAny_bind (wpAny_pure (wpAny_bind (collect_list hl (wpAny_bind (wpAny_newList (wpAny_bind (wpAny_holding (wpAny_call_entry slot_list_sort ⟨_, Heap.get?_push_size _ rfl, rfl⟩ entry_list_sort (short_in_place (Heap.get?_push_size _ rfl) h1 ?_) (args_list_sort _)))) fit)) fit)))
  refine ⟨_, rfl, wpAny_pure ⟨_, rfl, ?_⟩⟩
  dsimp only
  rw [size]
  exact done
end
end Mine
namespace Mine
inductive Kind | int | str | pair
inductive CellOf : Kind → Dat → Prop
  | int (i : Int) : CellOf .int (.int i)
  | str (x : Str) (h : PyData.strOk x = true) : CellOf .str (.str x)
  | pair (a b : Int) : CellOf .pair (.tuple [.int a, .int b])
theorem CellOf.same {κ : Kind} {c d : Dat} (h : CellOf κ c) (k : CellOf κ d) : SameK c d := by
  cases h <;> cases k <;> constructor
theorem CellOf.asym {κ : Kind} {c d : Dat} (h : CellOf κ c) (k : CellOf κ d) (e : cellLt c d = true) : cellLt d c = false := by
  cases h <;> cases k
  · simp only [cellLt, decide_eq_true_eq, decide_eq_false_iff_not] at *; omega
  · simp only [cellLt, decide_eq_true_eq, decide_eq_false_iff_not] at *
    exact List.lt_asymm e
  · simp only [cellLt, decide_eq_true_eq, decide_eq_false_iff_not] at *; omega
theorem CellOf.trans {κ : Kind} {c d e : Dat} (h : CellOf κ c) (k : CellOf κ d) (l : CellOf κ e) (e1 : cellLt c d = true) (e2 : cellLt d e = true) : cellLt c e = true := by
  cases h <;> cases k <;> cases l
  · simp only [cellLt, decide_eq_true_eq] at *; omega
  · simp only [cellLt, decide_eq_true_eq] at *
    exact List.lt_trans e1 e2
  · simp only [cellLt, decide_eq_true_eq] at *; omega
theorem CellOf.tri {κ : Kind} {c d : Dat} (h : CellOf κ c) (k : CellOf κ d) (hn : c ≠ d) (e : cellLt c d = false) : cellLt d c = true := by
  cases h <;> cases k
  · rename_i i j
    have hn : i ≠ j := fun q => hn (by rw [q])
    simp only [cellLt, decide_eq_true_eq, decide_eq_false_iff_not] at *; omega
  · rename_i x _ y _
    have hn : x.cps.toList ≠ y.cps.toList := fun q => hn (by
      congr 1
      cases x; cases y
      simp only at q
      rw [Array.toList_inj.mp q])
    simp only [cellLt, decide_eq_true_eq, decide_eq_false_iff_not] at *
    have e' : y.cps.toList ≤ x.cps.toList := List.not_lt.mp e
    exact Decidable.byContradiction fun q => hn (List.le_antisymm (List.not_lt.mp q) e')
  · rename_i a b c d
    have hn : ¬ (a = c ∧ b = d) := fun q => hn (by rw [q.1, q.2])
    simp only [cellLt, decide_eq_true_eq, decide_eq_false_iff_not] at *; omega
theorem CellOf.irr {κ : Kind} {c : Dat} (h : CellOf κ c) : cellLt c c = false := by
  cases e : cellLt c c with
  | false => rfl
  | true => rw [h.asym h e] at e; cases e
theorem dat_at {news : List (Addr × Obj)} {vs : List Value} {ds : List Dat} (h : DatAll news vs ds) {i : Nat} (hi : i < ds.length) : DatIn news (vs.getD i Value.none) (ds.getD i .none) := by
  obtain ⟨v, hv, hd⟩ := h.get hi
  rw [List.getD_eq_getElem?_getD, hv, List.getD_eq_getElem?_getD, List.getElem?_eq_getElem hi]
  exact hd
section
variable {prog : Program} {w : World} {A : Around} {E : Value → Shared → Prop} {s : Shared} {h₀ : Heap} {L a : Addr} {m : Str → Option Value} {news dl : List (Addr × Obj)} {vs : List Value} {ds : List Dat} {κ : Kind}
def kindS : Kind → SortKind
  | .pair => tuples' true
  | _ => oneType'
theorem pairs_kat : ∀ {vs : List Value} {ds : List Dat} {h : Heap}, (∀ p ∈ dl, h.get? p.1 = some p.2) → DatAll dl vs ds → (∀ d ∈ ds, CellOf .pair d) → ∃ fs, KatTups h vs fs ∧ fs.length = vs.length ∧ ∀ v ∈ fs, ∃ i t, v = Value.int i t
  | _, _, _, _, .nil, _ => ⟨[], .nil, rfl, fun _ h => nomatch h⟩
  | _, _, h, N, .cons hd r, hk => by
    obtain ⟨fs, f1, f2, f3⟩ := pairs_kat N r fun d hm => hk d (.tail _ hm)
    have hc := hk _ (.head _)
    cases hc with
    | pair x y =>
      obtain ⟨a, t1, t2, k, rfl, hm⟩ := pair_in hd
      refine ⟨.int x t1 :: fs, .cons (N _ hm) rfl rfl rfl f1, by simp [f2], fun v hv => ?_⟩
      rcases List.mem_cons.mp hv with rfl | hv
      · exact ⟨_, _, rfl⟩
      · exact f3 v hv
theorem kind_ok {Q : SortKind → Shared → Prop} (N : ∀ p ∈ dl, s.heap.get? p.1 = some p.2) (hd : DatAll dl vs ds) (hk : ∀ d ∈ ds, CellOf κ d) (h2 : 2 ≤ vs.length) (h : Q (kindS κ) s) : wpAny (model prog w) A (keyKind' vs.toArray) Q E s := by
  cases κ with
  | int =>
    refine kas_kind (T := .type "int") h2 (fun v hv => ?_) (by decide) (by decide) h
    obtain ⟨i, hi, e⟩ := List.getElem_of_mem hv
    have q := dat_at hd (i := i) (by rw [← hd.length]; exact hi)
    rw [List.getD_eq_getElem?_getD, List.getElem?_eq_getElem hi, Option.getD_some, e] at q
    have hc := hk (ds.getD i .none) (by rw [List.getD_eq_getElem?_getD, List.getElem?_eq_getElem (by rw [← hd.length]; exact hi)]; exact List.getElem_mem _)
    revert q hc
    generalize ds.getD i .none = d
    intro q hc
    cases hc; cases q
    exact Looks.of_pure rfl
  | str =>
    refine kas_kind (T := .type "str") h2 (fun v hv => ?_) (by decide) (by decide) h
    obtain ⟨i, hi, e⟩ := List.getElem_of_mem hv
    have q := dat_at hd (i := i) (by rw [← hd.length]; exact hi)
    rw [List.getD_eq_getElem?_getD, List.getElem?_eq_getElem hi, Option.getD_some, e] at q
    have hc := hk (ds.getD i .none) (by rw [List.getD_eq_getElem?_getD, List.getElem?_eq_getElem (by rw [← hd.length]; exact hi)]; exact List.getElem_mem _)
    revert q hc
    generalize ds.getD i .none = d
    intro q hc
    cases hc; cases q
    exact Looks.of_pure rfl
  | pair =>
    obtain ⟨fs, f1, f2, f3⟩ := pairs_kat N hd hk
    refine kat_kind (T := .type "int") f1 (by omega) (fun v hv => ?_) (by decide) h
    obtain ⟨i, t, rfl⟩ := f3 v hv
    exact Looks.of_pure rfl
theorem lt_ok {Q : Bool → Shared → Prop} {u v : Value} {c d : Dat} (N : ∀ p ∈ dl, s.heap.get? p.1 = some p.2) (hu : DatIn dl u c) (hv : DatIn dl v d) (kc : CellOf κ c) (kd : CellOf κ d) (h : Q (cellLt c d) s) :
    wpAny (model prog w) A (keyLt' (kindS κ) u v) Q (fun _ _ => False) s := by
  cases kc with
  | int => cases kd; cases hu; cases hv; exact kat_lt_int h
  | str => cases kd; cases hu; cases hv; exact kas_lt_str h
  | pair x y =>
    cases kd with
    | pair x' y' =>
    obtain ⟨a1, t1, t2, k1, rfl, m1⟩ := pair_in hu
    obtain ⟨a2, t3, t4, k2, rfl, m2⟩ := pair_in hv
    refine kat_lt (N _ m1) rfl (N _ m2) rfl ?_
    refine kat_cons (wpAny_eqBool_int ?_)
    by_cases e : x = x'
    · subst e
      rw [beq_self_eq_true]
      refine kat_yes (kat_cons (wpAny_eqBool_int ?_))
      by_cases e : y = y'
      · subst e
        rw [beq_self_eq_true]
        refine kat_yes (kat_nil ?_)
        simpa [cellLt] using h
      · have e' : (y == y') = false := by simpa using e
        rw [e']
        refine kat_no (kat_one _ _ (lt_int ?_))
        show Q (decide (y < y')) s
        simpa [cellLt] using h
    · have e' : (x == x') = false := by simpa using e
      rw [e']
      refine kat_no (oneLt_int ?_)
      simpa [cellLt, e] using h
theorem dat_places : ∀ {p : List Nat}, (∀ i ∈ p, i < ds.length) → DatAll dl vs ds → DatAll dl (p.map fun i => vs.getD i Value.none) (p.map fun i => ds.getD i .none)
  | [], _, _ => .nil
  | i :: p, h, hd => .cons (dat_at hd (h i (.head _))) (dat_places (fun j hj => h j (.tail _ hj)) hd)
theorem range_getD {α : Type} (d : α) (l : List α) : (List.range l.length).map (fun i => l.getD i d) = l := by
  refine List.ext_getElem? fun i => ?_
  by_cases h : i < l.length
  · simp [h]
  · simp [h]
theorem sorted_data {l : Addr} {c : Nat} {Q : Value → Shared → Prop} (F : Fr h₀ L s.heap m) (N : News h₀ L s.heap news) (hm : (l, listOf vs.toArray c) ∈ news) (hdl : ∀ p ∈ dl, p ∈ news) (hd : DatAll dl vs ds) (hk : ∀ d ∈ ds, CellOf κ d) (hnd : ds.Nodup) (h64 : ds.length < 64)
    (h : ∀ D zs es k h', Fr h₀ L h' m → News h₀ L h' ((D, listOf (List.toArray zs) k) :: news) → (∀ p ∈ news, p.1 < D) → DatAll dl zs es → es.Perm ds → es.Pairwise (fun a b => cellLt a b = true) → Q (.ref D) { s with heap := h' }) :
    wpAny (model prog w) A (call (.builtin "sorted") [.ref l]) Q E s := by
  have hl := hd.length
  by_cases h2 : vs.length < 2
  · refine short_sorted F N (News.isList N hm) h2 fun D k h' F' N' lD => h D vs ds k h' F' N' lD hd (List.Perm.refl _) ?_
    match ds, hl with
    | [], _ => exact .nil
    | [x], _ => exact List.pairwise_singleton _ _
    | x :: y :: r, hl => simp only [List.length_cons] at hl; omega
  · refine kat_sorted F N (News.isList N hm) (by omega) (by omega) fun D e1 h' F' N' lD => ?_
    have N2 : ∀ p ∈ dl, h'.get? p.1 = some p.2 := fun p hp => (N' p (.tail _ (hdl p hp))).1
    refine kind_ok (s := { s with heap := h' }) N2 hd hk (by omega) ?_
    rw [hl]
    have hc : ∀ i, i < ds.length → CellOf κ (ds.getD i .none) := fun i hi => hk _ (by rw [List.getD_eq_getElem?_getD, List.getElem?_eq_getElem hi]; exact List.getElem_mem _)
    have hne : ∀ i j, i < ds.length → j < ds.length → i ≠ j → ds.getD i .none ≠ ds.getD j .none := fun i j hi hj hij e => by
      rw [List.getD_eq_getElem?_getD, List.getElem?_eq_getElem hi, List.getD_eq_getElem?_getD, List.getElem?_eq_getElem hj, Option.getD_some, Option.getD_some] at e
      exact hij ((List.getElem?_inj hi hnd).mp (by rw [List.getElem?_eq_getElem hi, List.getElem?_eq_getElem hj, e]))
    refine sort_ok (lt := fun i j => cellLt (ds.getD i .none) (ds.getD j .none)) ⟨fun i j hi hj hij e => (hc i hi).tri (hc j hj) (hne i j hi hj hij) e, fun i j hi hj e => (hc i hi).asym (hc j hj) e, fun i j k hi hj hk e1 e2 => (hc i hi).trans (hc j hj) (hc k hk) e1 e2⟩ ?_ (by omega) _ ?_
    · intro i j C hi hj hC
      exact lt_ok (s := { s with heap := h' }) N2 (dat_at hd hi) (dat_at hd hj) (hc i hi) (hc j hj) hC
    · intro p hp U
      have P := Pm.of_perm hp
      have hin : ∀ i ∈ p.toList, i < ds.length := fun i hi => List.mem_range.mp (hp.mem_iff.mp hi)
      refine KasFin.intro F' N' (UpdF.head fun q hq => Nat.ne_of_lt (lD q hq)) fun h'' k F'' N'' => ?_
      refine h D _ (p.toList.map fun i => ds.getD i .none) k h'' F'' N'' lD (dat_places hin hd) ?_ ?_
      · have := hp.map (fun i => ds.getD i Dat.none)
        rw [range_getD] at this
        exact this
      · rw [List.pairwise_map, List.pairwise_iff_getElem]
        intro i j hi hj hij
        have hj' : j < ds.length := by simpa [P.size] using hj
        have := U i j hij hj'
        have ei : p.getD i 0 = p.toList[i] := by rw [Array.getD_eq_getD_getElem?, ← Array.getElem?_toList, List.getElem?_eq_getElem hi]; rfl
        have ej : p.getD j 0 = p.toList[j] := by rw [Array.getD_eq_getD_getElem?, ← Array.getElem?_toList, List.getElem?_eq_getElem hj]; rfl
        rw [ei, ej] at this
        exact this
end
end Mine
end
section
open PySem PySem.W PyProof.Rows PySem.Spec
set_option maxRecDepth 100000
namespace Mine
section
variable {prog : Program} {w : World} {A : Around} {E : Value → Shared → Prop} {s : Shared} {h₀ : Heap} {L l : Addr} {m : Str → Option Value} {news L9 : List (Addr × Obj)} {value slice : PySem.Expr} {vs : List Value} {ds : List Dat} {n : Nat} {d : Int} {t : Tok} {ops : List Value} {Q : Value → Shared → Prop}
def dirD (d : Int) (ds : List Dat) : List Dat := if d = 1 then ds else ds.reverse
theorem slice_dir (hd : d = 1 ∨ d = -1) (F : Fr h₀ L s.heap m) (N : News h₀ L s.heap news) (hm : (l, listOf vs.toArray n) ∈ news) (hv : DatAll L9 vs ds) (hz : ds.length ≤ 1000)
    (h : ∀ D us h', Fr h₀ L h' m → News h₀ L h' ((D, listOf (List.toArray us) 0) :: news) → (∀ p ∈ news, p.1 < D) → DatAll L9 us (dirD d ds) → Q (.ref D) { s with heap := h' })
    (hs : subscripted slice false (.ref l) (.ref s.heap.objs.size) = operate ops (getItem (.ref l) (.ref s.heap.objs.size))) :
    wpAny (model prog w) A (subscriptTail value slice (.ref l) (.ref s.heap.objs.size)) Q E { s with heap := s.heap.push { cls := .type "slice", data := .fields #[.none, .none, .int d t] } } := by
  have hl := News.isList N hm
  have hz' : vs.toArray.size ≤ sizeLine := by rw [List.size_toArray, hv.length]; exact Nat.le_trans hz (by decide)
  refine tail_any (Heap.IsList.typeIs (s := { s with heap := s.heap.push { cls := .type "slice", data := .fields #[.none, .none, .int d t] } }) (hl.push _)) slot_list_getitem.lookup (wpAny_getItem_list_slice (hl.push _) (Heap.IsSliceOf.new ..) .none .none (.int d t) (by rcases hd with rfl | rfl <;> decide) ?_ hz') hs
  have N1 := News.push (F.push { cls := .type "slice", data := .fields #[.none, .none, .int d t] }) (N.grown fun _ _ e => Heap.get?_push_of_some _ e) { cls := .type "list", data := .seq (slicePick vs.toArray none none (some d)) }
  rw [Heap.size_push] at N1
  show Q (.ref (s.heap.push _).objs.size) _
  rw [Heap.size_push]
  have e : slicePick vs.toArray none none (some d) = List.toArray (if d = 1 then vs else vs.reverse) := by
    rcases hd with rfl | rfl
    · rw [if_pos rfl]
      have : slicePick vs.toArray none none (some 1) = slicePick vs.toArray none none none := rfl
      rw [this, kms_pick_eq]
      congr 1
      show (vs.drop 0).take (vs.length - 0) = vs
      simp
    · rw [if_neg (by decide), krv_pick]
  dsimp only
  rw [e] at N1 ⊢
  refine h _ _ _ ((F.push _).push _) N1 (fun p hp => Nat.lt_succ_of_lt (Heap.lt_size (N p hp).1)) ?_
  unfold dirD
  by_cases hd1 : d = 1
  · rw [if_pos hd1, if_pos hd1]; exact hv
  · rw [if_neg hd1, if_neg hd1]; exact dat_reverse hv
end
end Mine
end
section
open PySem PySem.W PyProof.Rows
namespace Mine
theorem row_ok {b : Bool} {r : Dat} (h : RowK b r) {k : Int × Int} (hk : KeyOk k) : kqdOk 8 (cellD r k.1) = true := by
  obtain ⟨hk, _⟩ := hk
  cases h with
  | mk x y c z hc =>
    rcases hk with e | e | e <;> rw [e]
    · rfl
    · rfl
    · cases hc with
      | str x hx => exact hx
      | pair => rfl
def kindOf (b : Bool) (i : Int) : Kind := if i = 2 then (if b = true then .pair else .str) else .int
theorem row_kind {b : Bool} {r : Dat} (h : RowK b r) {k : Int × Int} (hk : KeyOk k) : CellOf (kindOf b k.1) (cellD r k.1) := by
  obtain ⟨hk, _⟩ := hk
  cases h with
  | mk x y c z hc =>
    rcases hk with e | e | e <;> rw [e]
    · exact .int _
    · exact .int _
    · cases hc with
      | str x hx => exact .str x hx
      | pair a b => exact .pair a b
open Classical in
/-- the values of a column, each once, by their first places -/
noncomputable def valuesD (i : Int) : List Dat → List Dat → List Dat
  | acc, [] => acc
  | acc, r :: rs => if cellD r i ∈ acc then valuesD i acc rs else valuesD i (acc ++ [cellD r i]) rs
theorem valuesD_nodup (i : Int) : ∀ (rs acc : List Dat), acc.Nodup → (valuesD i acc rs).Nodup
  | [], _, h => h
  | r :: rs, acc, h => by
    rw [valuesD]
    split
    · exact valuesD_nodup i rs acc h
    · rename_i hn
      refine valuesD_nodup i rs _ (List.nodup_append.mpr ⟨h, by simp, fun a ha b hb e => ?_⟩)
      rw [List.mem_singleton.mp hb] at e
      exact hn (e ▸ ha)
theorem valuesD_mem (i : Int) : ∀ (rs acc : List Dat) (d : Dat), d ∈ valuesD i acc rs ↔ d ∈ acc ∨ ∃ r ∈ rs, cellD r i = d
  | [], acc, d => by simp [valuesD]
  | r :: rs, acc, d => by
    rw [valuesD]
    split
    · rename_i hn
      rw [valuesD_mem i rs acc d]
      constructor
      · rintro (h | ⟨x, hx, e⟩)
        · exact .inl h
        · exact .inr ⟨x, List.mem_cons_of_mem _ hx, e⟩
      · rintro (h | ⟨x, hx, e⟩)
        · exact .inl h
        · rcases List.mem_cons.mp hx with rfl | hx
          · exact .inl (e ▸ hn)
          · exact .inr ⟨x, hx, e⟩
    · rw [valuesD_mem i rs _ d]
      constructor
      · rintro (h | ⟨x, hx, e⟩)
        · rcases List.mem_append.mp h with h | h
          · exact .inl h
          · exact .inr ⟨r, List.mem_cons_self, (List.mem_singleton.mp h).symm⟩
        · exact .inr ⟨x, List.mem_cons_of_mem _ hx, e⟩
      · rintro (h | ⟨x, hx, e⟩)
        · exact .inl (List.mem_append_left _ h)
        · rcases List.mem_cons.mp hx with rfl | hx
          · exact .inl (List.mem_append_right _ (by rw [← e]; exact List.mem_cons_self))
          · exact .inr ⟨x, hx, e⟩
theorem valuesD_length (i : Int) : ∀ (rs acc : List Dat), (valuesD i acc rs).length ≤ acc.length + rs.length
  | [], _ => Nat.le_refl _
  | r :: rs, acc => by
    rw [valuesD]
    split
    · have := valuesD_length i rs acc; simp only [List.length_cons]; omega
    · have := valuesD_length i rs (acc ++ [cellD r i]); simp only [List.length_cons, List.length_append, List.length_nil] at *; omega
end Mine
end
section
open PySem PySem.W PyProof.Rows PySem.Spec PySem.Calls
open PyProof.Rows.LCg (lst NsObj ns_obj lst_snoc)
set_option maxRecDepth 100000
namespace Mine
section
variable {prog : Program} {w : World} {A : Around} {s : Shared} {h₀ : Heap} {L : Addr} {m : Str → Option Value} {e : Expr} {d : Nat} {I C D : Addr} {cenv : Env} {target : Expr} {R : Result → Shared → Prop}
/-- what a turn's code is, said by what it wants -/
def TurnIs (prog : Program) (w : World) (A : Around) (e : Expr) (d : Nat) (I D : Addr) (cenv : Env) (target : Expr) (W : (Shared → Prop) → (Value → Shared → Prop) → Shared → Prop) : Prop :=
  ∀ (Q : PySem.Fin → Shared → Prop) (E : Value → Shared → Prop) (s : Shared), wpAny (model prog w) A (pyNext (.ref I)) (fun r s₁ => match r with
    | none => Q (.done .next) s₁
    | some v => wpAny (model prog w) A (letOwnedTupleGo target (.ref I) v) (fun _ s₂ => wpAny (model prog w) A (assign target cenv v) (fun _ s₃ =>
        W (fun s₄ => Q (.again (.compLoop e d (.ref I) (.ref D) cenv)) s₄) E s₃) E s₂) E s₁) E s → wpAny (model prog w) A (compTurn e d (.ref I) (.ref D) cenv) Q E s
/-- a turn's end -/
def TurnEnd (h₀ : Heap) (L : Addr) (m : Str → Option Value) (s : Shared) (C D : Addr) (wr : List Addr) (own : List (Addr × Obj)) (J : (Str → Option Value) → List Value → List (Addr × Obj) → Prop) (s' : Shared) : Prop :=
  ∃ h tk oC m₂ ys led, s' = { s with heap := h, toks := tk } ∧ Fr h₀ L h m ∧ NsObj oC m₂ ∧ News h₀ L h ((C, oC) :: (D, lst ys) :: (own ++ led)) ∧ (∀ p ∈ led, p.1 ≠ C ∧ p.1 ≠ D ∧ p.1 ∉ wr) ∧ J m₂ ys led
theorem comp_loop {fp wr : List Addr} {n : Nat} {P Md : Nat → Value → Heap → Prop} {St : Nat → Heap → Prop} {W : (Shared → Prop) → (Value → Shared → Prop) → Shared → Prop}
    (K : KTurns prog w A target I fp wr n P Md St) (TI : TurnIs prog w A e d I D cenv target W) (hq : (Code.compLoop e d (.ref I) (.ref D) cenv).quiet = true) (hf : (Code.compLoop e d (.ref I) (.ref D) cenv).isFrame = false) (hU : A.under (.compLoop e d (.ref I) (.ref D) cenv) = A)
    (hLf : L ∉ fp) (hwr : ∀ b ∈ wr, h₀.get? b = none) (hC : C ∉ fp) (hD : D ∉ fp)
    (J : Nat → (Str → Option Value) → List Value → List (Addr × Obj) → Prop)
    (turn : ∀ i v ys led h tk oC m₂ own (K₁ : Shared → Prop) (E' : Value → Shared → Prop), i < n → P i v h → J i m₂ ys led → (∀ p ∈ own, p.1 ∈ fp) → NsObj oC m₂ → Fr h₀ L h m → News h₀ L h ((C, oC) :: (D, lst ys) :: (own ++ led)) → (∀ p ∈ led, p.1 ≠ C ∧ p.1 ≠ D ∧ p.1 ∉ wr) →
      (∀ s', TurnEnd h₀ L m s C D wr own (J (i + 1)) s' → K₁ s') → wpAny (model prog w) A (assign target cenv v) (fun _ s₃ => W K₁ E' s₃) E' { s with heap := h, toks := tk })
    (fin : ∀ ys led h tk oC m₂, J n m₂ ys led → NsObj oC m₂ → Fr h₀ L h m → News h₀ L h ((C, oC) :: (D, lst ys) :: led) → (∀ p ∈ led, p.1 ≠ C ∧ p.1 ≠ D ∧ p.1 ∉ wr) → R (.ok .next) { s with heap := h, toks := tk }) :
    ∀ (k i : Nat) ys led h tk oC m₂, i + k = n → St i h → J i m₂ ys led → NsObj oC m₂ → Fr h₀ L h m → News h₀ L h ((C, oC) :: (D, lst ys) :: led) → (∀ p ∈ led, p.1 ≠ C ∧ p.1 ≠ D ∧ p.1 ∉ wr) →
      codeAny (model prog w) A (.compLoop e d (.ref I) (.ref D) cenv) R { s with heap := h, toks := tk } := by
  have hLw : L ∉ wr := fun h => hLf (K.sub _ h)
  have old : ∀ b o, h₀.get? b = some o → b ∉ wr := fun b o e hb => by rw [hwr b hb] at e; cases e
  intro k
  induction k with
  | zero =>
    intro i ys led h tk oC m₂ hin hst hJ hC' F N off
    obtain rfl : i = n := by omega
    refine codeAny_of_tree ?_
    rw [hU]
    have hden : (model prog w).den (.compLoop e d (.ref I) (.ref D) cenv) = (compTurn e d (.ref I) (.ref D) cenv).onRaise (fun x => do noteFrame x cenv; theTreesLotGoes x) := by
      show (if (Code.compLoop e d (.ref I) (.ref D) cenv).isFrame = true then _ else _) = _
      rw [hf]; rfl
    rw [hden]
    refine wpAny_noted (TI _ _ _ ?_)
    refine K.done _ _ _ hst fun h₁ tk₁ hk₁ => ?_
    refine fin ys led h₁ tk₁ oC m₂ hJ hC' ⟨F.ns.at' fun o e => hk₁ _ o hLw e, fun b o e => hk₁ b o (old b o e) (F.keep b o e), F.above⟩ (fun p hp => ?_) off
    refine ⟨hk₁ _ _ ?_ (N p hp).1, (N p hp).2⟩
    rcases List.mem_cons.mp hp with rfl | hp
    · exact fun h => hC (K.sub _ h)
    · rcases List.mem_cons.mp hp with rfl | hp
      · exact fun h => hD (K.sub _ h)
      · exact (off p hp).2.2
  | succ k ih =>
    intro i ys led h tk oC m₂ hin hst hJ hC' F N off
    refine codeAny_of_tree ?_
    rw [hU]
    have hden : (model prog w).den (.compLoop e d (.ref I) (.ref D) cenv) = (compTurn e d (.ref I) (.ref D) cenv).onRaise (fun x => do noteFrame x cenv; theTreesLotGoes x) := by
      show (if (Code.compLoop e d (.ref I) (.ref D) cenv).isFrame = true then _ else _) = _
      rw [hf]; rfl
    rw [hden]
    refine wpAny_noted (TI _ _ _ ?_)
    refine K.item i _ _ _ (by omega) hst fun v h₁ tk₁ hMd hk₁ => ?_
    refine K.go i v _ _ _ hMd fun h₂ hP hst₂ hk₂ => ?_
    have keep : ∀ b o, b ∉ wr → h.get? b = some o → h₂.get? b = some o := fun b o hb x => hk₂ b o hb (hk₁ b o hb x)
    have F₂ : Fr h₀ L h₂ m := ⟨F.ns.at' fun o e => keep _ o hLw e, fun b o e => keep b o (old b o e) (F.keep b o e), F.above⟩
    have Nown : News h₀ L h₂ (PyProof.Rows.ownOf h₀ fp h₂) := news_ownOf hLf
    have N₂ : News h₀ L h₂ ((C, oC) :: (D, lst ys) :: (PyProof.Rows.ownOf h₀ fp h₂ ++ led)) := fun p hp => by
      rcases List.mem_cons.mp hp with rfl | hp
      · exact ⟨keep _ _ (fun h => hC (K.sub _ h)) (N _ List.mem_cons_self).1, (N _ List.mem_cons_self).2⟩
      · rcases List.mem_cons.mp hp with rfl | hp
        · exact ⟨keep _ _ (fun h => hD (K.sub _ h)) (N _ (List.mem_cons_of_mem _ List.mem_cons_self)).1, (N _ (List.mem_cons_of_mem _ List.mem_cons_self)).2⟩
        · rcases List.mem_append.mp hp with hp | hp
          · exact Nown p hp
          · have z := N p (List.mem_cons_of_mem _ (List.mem_cons_of_mem _ hp))
            exact ⟨keep _ _ (off p hp).2.2 z.1, z.2⟩
    refine turn i v ys led h₂ tk₁ oC m₂ (PyProof.Rows.ownOf h₀ fp h₂) _ _ (by omega) hP hJ ownOf_sub hC' F₂ N₂ off (fun s' hs' => ?_)
    obtain ⟨h₃, tk₃, oC₃, m₃, ys₃, led₃, rfl, F₃, hC₃, N₃, off₃, hJ₃⟩ := hs'
    refine ⟨hq, ih (i + 1) ys₃ led₃ h₃ tk₃ oC₃ m₃ (by omega) ?_ hJ₃ hC₃ F₃ (fun p hp => ?_) off₃⟩
    · refine K.frame _ _ _ hst₂ fun b hb o e => ?_
      cases hn : h₀.get? b with
      | some o₀ =>
        have : o₀ = o := by have q := F₂.keep b o₀ hn; rw [e] at q; exact (Option.some.inj q).symm
        exact this ▸ F₃.keep b o₀ hn
      | none => exact (N₃ _ (List.mem_cons_of_mem _ (List.mem_cons_of_mem _ (List.mem_append_left _ (mem_ownOf hb hn e))))).1
    · rcases List.mem_cons.mp hp with rfl | hp
      · exact N₃ _ List.mem_cons_self
      · rcases List.mem_cons.mp hp with rfl | hp
        · exact N₃ _ (List.mem_cons_of_mem _ List.mem_cons_self)
        · exact N₃ _ (List.mem_cons_of_mem _ (List.mem_cons_of_mem _ (List.mem_append_right _ hp)))
end
end Mine
namespace Mine
section
variable {prog : Program} {w : World} {A : Around} {I D : Addr} {cenv : Env} {elt target iter ct t1 i1 : Expr} {scope : Scope} {pos : Pos}
/-- the element, and its place in the list -/
def WElt (prog : Program) (w : World) (A : Around) (elt : Expr) (cenv : Env) (D : Addr) (K : Shared → Prop) (E : Value → Shared → Prop) (s : Shared) : Prop :=
  wpAny (model prog w) A (eval elt cenv) (fun y s' => wpAny (model prog w) A (call (.builtin "list.append") [.ref D, y]) (fun _ s'' => K s'') E s') E s
def WTest (prog : Program) (w : World) (A : Around) (ct elt : Expr) (cenv : Env) (D : Addr) (K : Shared → Prop) (E : Value → Shared → Prop) (s : Shared) : Prop :=
  wpAny (model prog w) A (isTrue ct cenv (eval ct cenv)) (fun ok s' => if ok = true then WElt prog w A elt cenv D K E s' else K s') E s
theorem turn_plain : TurnIs prog w A (.ListComp elt [⟨target, iter, [], 0⟩] scope pos) 0 I D cenv target (WElt prog w A elt cenv D) := by
  intro Q E s h
  rw [compTurn_list]
  refine wpAny_bind (wpAny_standAt (wpAny_bind (wpAny_mono h (fun r s₁ h₁ => ?_) fun _ _ h' => h')))
  cases r with
  | none => exact wpAny_pure h₁
  | some v =>
    refine wpAny_bind (wpAny_mono h₁ (fun _ s₂ h₂ => ?_) fun _ _ h' => h')
    refine wpAny_bind (wpAny_mono h₂ (fun _ s₃ h₃ => wpAny_bind (wpAny_mono (wpAny_tests_nil (Q := fun ok s₄ => ok = true ∧ s₄ = s₃) ⟨rfl, rfl⟩) (fun ok s₄ h₄ => ?_) fun _ _ h' => h')) fun _ _ h' => h')
    obtain ⟨rfl, rfl⟩ := h₄
    exact wpAny_bind (wpAny_bind (wpAny_mono h₃ (fun x s₅ h₅ => wpAny_bind (wpAny_mono h₅ (fun _ s₆ h₆ => wpAny_pure (wpAny_pure h₆)) fun _ _ h' => h')) fun _ _ h' => h'))
theorem turn_test : TurnIs prog w A (.ListComp elt [⟨target, iter, [ct], 0⟩] scope pos) 0 I D cenv target (WTest prog w A ct elt cenv D) := by
  intro Q E s h
  rw [compTurn_list]
  refine wpAny_bind (wpAny_standAt (wpAny_bind (wpAny_mono h (fun r s₁ h₁ => ?_) fun _ _ h' => h')))
  cases r with
  | none => exact wpAny_pure h₁
  | some v =>
    refine wpAny_bind (wpAny_mono h₁ (fun _ s₂ h₂ => ?_) fun _ _ h' => h')
    refine wpAny_bind (wpAny_mono h₂ (fun _ s₃ h₃ => wpAny_bind (wpAny_tests_one (wpAny_mono h₃ (fun ok s₄ h₄ => ?_) fun _ _ h' => h'))) fun _ _ h' => h')
    cases ok with
    | false => exact wpAny_pure h₄
    | true => exact wpAny_bind (wpAny_bind (wpAny_mono h₄ (fun x s₅ h₅ => wpAny_bind (wpAny_mono h₅ (fun _ s₆ h₆ => wpAny_pure (wpAny_pure h₆)) fun _ _ h' => h')) fun _ _ h' => h'))
theorem compTurn_in (it acc : Value) : compTurn (.ListComp elt [⟨target, iter, [], 0⟩, ⟨t1, i1, [ct], 0⟩] scope pos) 1 it acc cenv = (do
      standAt i1.pos
      match ← pyNext it with
      | none => pure (.done .next)
      | some v =>
        letOwnedTupleGo t1 it v
        assign t1 cenv v
        let mut ok := true
        for c in [ct] do
          if ok then ok ← isTrue c cenv (eval c cenv)
        if ok then
          (do let _ ← call (.builtin "list.append") [acc, ← eval elt cenv])
        again (.compLoop (.ListComp elt [⟨target, iter, [], 0⟩, ⟨t1, i1, [ct], 0⟩] scope pos) 1 it acc cenv)) := by rfl
theorem turn_in : TurnIs prog w A (.ListComp elt [⟨target, iter, [], 0⟩, ⟨t1, i1, [ct], 0⟩] scope pos) 1 I D cenv t1 (WTest prog w A ct elt cenv D) := by
  intro Q E s h
  rw [compTurn_in]
  refine wpAny_bind (wpAny_standAt (wpAny_bind (wpAny_mono h (fun r s₁ h₁ => ?_) fun _ _ h' => h')))
  cases r with
  | none => exact wpAny_pure h₁
  | some v =>
    refine wpAny_bind (wpAny_mono h₁ (fun _ s₂ h₂ => ?_) fun _ _ h' => h')
    refine wpAny_bind (wpAny_mono h₂ (fun _ s₃ h₃ => wpAny_bind (wpAny_tests_one (wpAny_mono h₃ (fun ok s₄ h₄ => ?_) fun _ _ h' => h'))) fun _ _ h' => h')
    cases ok with
    | false => exact wpAny_pure h₄
    | true => exact wpAny_bind (wpAny_bind (wpAny_mono h₄ (fun x s₅ h₅ => wpAny_bind (wpAny_mono h₅ (fun _ s₆ h₆ => wpAny_pure (wpAny_pure h₆)) fun _ _ h' => h')) fun _ _ h' => h'))
def WOut (prog : Program) (w : World) (A : Around) (e i1 : Expr) (cenv : Env) (D : Addr) (K : Shared → Prop) (E : Value → Shared → Prop) (s : Shared) : Prop :=
  wpAny (model prog w) A (eval i1 cenv) (fun x s' => wpAny (model prog w) A (pyIter x) (fun it s'' => codeAny (model prog w) A (.compStart e 1 it (.ref D) cenv) (fun r s3 => match r with | .ok _ => K s3 | .error x => cameBackBy (model prog w) A cenv E x s3) s'') E s') E s
theorem turn_out (hs : ∀ x, foldedSetIterable i1 cenv x = pure x) : TurnIs prog w A (.ListComp elt [⟨target, iter, [], 0⟩, ⟨t1, i1, [ct], 0⟩] scope pos) 0 I D cenv target (WOut prog w A (.ListComp elt [⟨target, iter, [], 0⟩, ⟨t1, i1, [ct], 0⟩] scope pos) i1 cenv D) := by
  intro Q E s h
  show wpAny _ A (standAt iter.pos >>= fun _ => pyNext (.ref I) >>= fun r => _) Q E s
  refine wpAny_bind (wpAny_standAt (wpAny_bind (wpAny_mono h (fun r s₁ h₁ => ?_) fun _ _ h' => h')))
  cases r with
  | none => exact wpAny_pure h₁
  | some v =>
    refine wpAny_bind (wpAny_mono h₁ (fun _ s₂ h₂ => ?_) fun _ _ h' => h')
    refine wpAny_bind (wpAny_mono h₂ (fun _ s₃ h₃ => wpAny_bind (wpAny_mono (wpAny_tests_nil (Q := fun ok s₄ => ok = true ∧ s₄ = s₃) ⟨rfl, rfl⟩) (fun ok s₄ h₄ => ?_) fun _ _ h' => h')) fun _ _ h' => h')
    obtain ⟨rfl, rfl⟩ := h₄
    refine wpAny_bind (wpAny_mono h₃ (fun x s₅ h₅ => ?_) fun _ _ h' => h')
    refine wpAny_bind (wpAny_standAt ?_)
    refine wpAny_bind (wpAny_of_eq (hs x) ?_)
    refine wpAny_bind (wpAny_holding (wpAny_mono h₅ (fun it s₆ h₆ => ?_) fun _ _ h' => h'))
    refine wpAny_bind (wpAny_runOwn (codeAny_mono h₆ fun r s₇ h₇ => ?_))
    cases r with
    | ok f => exact wpAny_pure h₇
    | error x => exact h₇
end
end Mine
namespace Mine
section
variable {prog : Program} {w : World} {A : Around} {E : Value → Shared → Prop} {s : Shared} {h₀ : Heap} {L : Addr} {m : Str → Option Value} {env : Env} {elt target iter : Expr} {ifs : List Expr} {gs : List Comprehension} {scope : Scope} {pos : Pos} {cl : List (Str × Addr)} {news : List (Addr × Obj)} {I : Addr}
/-- a new frame without arguments, laid onto the ledger -/
theorem env_new {M : Model} {gl : Addr} {qn : Str} {fn : Option Addr} {cv : Value} {ar : Option Env} {bu : Addr} {Q : Env → Shared → Prop} (F : Fr h₀ L s.heap m) (N : News h₀ L s.heap news) (hcell : ∀ y ∈ scope.names, y.2 ≠ .cell) (hkind : scope.kind = .function)
    (q : ∀ oC h', NsObj oC (fun _ => none) → Fr h₀ L h' m → News h₀ L h' ((s.heap.objs.size, oC) :: news) → (∀ b o, s.heap.get? b = some o → h'.get? b = some o) → Q (newEnv scope s.heap.objs.size gl cl qn fn cv ar bu) { s with heap := h' }) :
    wpAny M A (newFunctionEnv scope gl cl [] qn fn cv ar bu) Q E s := by
  refine wpAny_newFunctionEnv hcell (fun _ hy => nomatch hy) (fun h' ns same => ?_) hkind
  obtain ⟨oC, here, isC⟩ := ns_obj ns
  have up : ∀ b o, s.heap.get? b = some o → h'.get? b = some o := fun b o e => same.extBut b o (Nat.ne_of_lt (Heap.lt_size e)) (Heap.get?_push_of_some _ e)
  refine q oC h' isC (F.keeps up) (fun p hp => ?_) up
  cases hp with
  | head => exact ⟨here, Nat.ne_of_gt F.ns.lt, next_is_new F⟩
  | tail _ hp => exact ⟨up _ _ (N p hp).1, (N p hp).2⟩
theorem comp_at {s₂ : Shared} {RR : Value → Addr → Result → Shared → Prop} (F : Fr h₀ L s₂.heap m) (N : News h₀ L s₂.heap news) (hcell : ∀ y ∈ scope.names, y.2 ≠ .cell) (hkind : scope.kind = .function)
    (hself : ∀ (s' : Shared) (Q : Value → Shared → Prop) (E : Value → Shared → Prop), (∀ b o, s₂.heap.get? b = some o → s'.heap.get? b = some o) → Q (.ref I) s' → wpAny (model prog w) A (pyIter (.ref I)) Q E s')
    (loop : ∀ D C oC h tk, D = s₂.heap.objs.size → C = s₂.heap.objs.size + 1 → NsObj oC (fun _ => none) → Fr h₀ L h m → News h₀ L h ((C, oC) :: (D, lst []) :: news) → (∀ b o, s₂.heap.get? b = some o → h.get? b = some o) →
      codeAny (model prog w) A (.compLoop (.ListComp elt (⟨target, iter, ifs, 0⟩ :: gs) scope pos) 0 (.ref I) (.ref D) (compEnvC scope cl C env)) (RR (.ref D) C) { s₂ with heap := h, toks := tk }) :
    wpAny (model prog w) A (newList []) (fun acc s₃ => wpAny (model prog w) A (newFunctionEnv scope env.globals cl [] env.qual none .none (some env)) (fun cenv s₄ =>
      codeAny (model prog w) A (.compStart (.ListComp elt (⟨target, iter, ifs, 0⟩ :: gs) scope pos) 0 (.ref I) acc { cenv with scope := relabel scope env }) (RR acc cenv.locals) s₄) E s₃) E s₂ := by
  refine wpAny_newList (env_new (s := { s₂ with heap := s₂.heap.push (lst []) }) (F.push _) (N.push F _) hcell hkind fun oC h' isC F' N' up => ?_) (Nat.zero_le _)
  have old : ∀ b o, s₂.heap.get? b = some o → h'.get? b = some o := fun b o e => up b o (Heap.get?_push_of_some _ e)
  have go := loop s₂.heap.objs.size _ oC h' s₂.toks rfl (Heap.size_push _ _) isC F' N' old
  exact codeAny_compStart_list go (hself _ _ _ old go)
/-- the end of a comprehension that is an expression -/
theorem post_none {Q : Value → Shared → Prop} {C D : Addr} {ys : List Value} {led : List (Addr × Obj)} {h : Heap} {tk : Nat} {oC : Obj} {m₂ : Str → Option Value} (hC : NsObj oC m₂) (F : Fr h₀ L h m) (N : News h₀ L h ((C, oC) :: (D, lst ys) :: led)) (hDC : D ≠ C) (off : ∀ p ∈ led, p.1 ≠ C)
    (q : ∀ h', Fr h₀ L h' m → News h₀ L h' ((D, lst ys) :: led) → Q (.ref D) { s with heap := h', toks := tk }) : compPost (model prog w) A E none Q (.ref D) C (.ok .next) { s with heap := h, toks := tk } := by
  have zC := N _ List.mem_cons_self
  refine ⟨m₂, hC.ns zC.1, fun h' hs' => q h' (F.change hs' zC.2.1 zC.2.2) fun p hp => ?_⟩
  have z := N p (List.mem_cons_of_mem _ hp)
  refine ⟨hs'.extBut _ _ ?_ z.1, z.2⟩
  rcases List.mem_cons.mp hp with rfl | hp
  · exact hDC
  · exact off p hp
/-- the end of one that is assigned -/
theorem post_assign {Q : Flow → Shared → Prop} {y : Str} {py : Pos} {C D : Addr} {ys : List Value} {led : List (Addr × Obj)} {h : Heap} {tk : Nat} {oC : Obj} {m₂ : Str → Option Value} (hLe : env.locals = L) (hy : env.kindOf y = some .local) (hp : (env.scope.kind == .class || (env.scope.kind == .module && env.locals != env.globals)) = false)
    (hC : NsObj oC m₂) (F : Fr h₀ L h m) (N : News h₀ L h ((C, oC) :: (D, lst ys) :: led)) (hDC : D ≠ C) (off : ∀ p ∈ led, p.1 ≠ C)
    (q : ∀ h', Fr h₀ L h' (fun z => if z = y then some (.ref D) else m z) → News h₀ L h' ((D, lst ys) :: led) → Q .next { s with heap := h', toks := tk + 1 }) :
    compPost (model prog w) A E (some (assign (.Name y py) env)) (fun _ s' => Q .next s') (.ref D) C (.ok .next) { s with heap := h, toks := tk } := by
  subst hLe
  have zC := N _ List.mem_cons_self
  show wpAny _ A (assign (.Name y py) env (.ref D)) _ _ _
  refine wpAny_assign_Name (wpAny_storeName_local hy F.ns (fun h₂ hn₂ hs₂ => ?_) hp)
  have F₂ := F.set hn₂ hs₂
  have N₂ := N.set hs₂
  have zC₂ := N₂ _ List.mem_cons_self
  refine ⟨m₂, hC.ns zC₂.1, fun h' hs' => q h' (F₂.change hs' zC₂.2.1 zC₂.2.2) fun p hp => ?_⟩
  have z := N₂ p (List.mem_cons_of_mem _ hp)
  refine ⟨hs'.extBut _ _ ?_ z.1, z.2⟩
  rcases List.mem_cons.mp hp with rfl | hp
  · exact hDC
  · exact off p hp
theorem comp_eval {Q : Value → Shared → Prop} (hclos : closureFor scope env = pure cl) (hkind : scope.kind = .function) (hnames : ∀ x ∈ scope.names, x.2 = .local → scope.names.lookup x.1 = some .local) (hs : ∀ x, foldedSetIterable iter env x = pure x)
    (h : wpAny (model prog w) A (eval iter env) (fun x s₁ => wpAny (model prog w) A (pyIter x) (fun it s₂ => wpAny (model prog w) A (newList []) (fun acc s₃ => wpAny (model prog w) A (newFunctionEnv scope env.globals cl [] env.qual none .none (some env)) (fun cenv s₄ =>
      codeAny (model prog w) A (.compStart (.ListComp elt (⟨target, iter, ifs, 0⟩ :: gs) scope pos) 0 it acc { cenv with scope := relabel scope env }) (compPost (model prog w) A E none Q acc cenv.locals) s₄) E s₃) E s₂) E s₁) E s) :
    wpAny (model prog w) A (eval (.ListComp elt (⟨target, iter, ifs, 0⟩ :: gs) scope pos) env) Q E s := by
  rw [eval_ListComp]
  exact wpAny_comprehension_free (use := none) rfl hs hclos hkind hnames h
theorem comp_assign {y : Str} {py spos : Pos} {Q : Flow → Shared → Prop} (hsw : swapsWith (.ListComp elt (⟨target, iter, ifs, 0⟩ :: gs) scope pos) (some (.Name y py)) spos.line env = pure true)
    (hclos : closureFor scope env = pure cl) (hkind : scope.kind = .function) (hnames : ∀ x ∈ scope.names, x.2 = .local → scope.names.lookup x.1 = some .local) (hs : ∀ x, foldedSetIterable iter env x = pure x)
    (h : wpAny (model prog w) A (eval iter env) (fun x s₁ => wpAny (model prog w) A (pyIter x) (fun it s₂ => wpAny (model prog w) A (newList []) (fun acc s₃ => wpAny (model prog w) A (newFunctionEnv scope env.globals cl [] env.qual none .none (some env)) (fun cenv s₄ =>
      codeAny (model prog w) A (.compStart (.ListComp elt (⟨target, iter, ifs, 0⟩ :: gs) scope pos) 0 it acc { cenv with scope := relabel scope env }) (compPost (model prog w) A E (some (assign (.Name y py) env)) (fun _ s' => Q .next s') acc cenv.locals) s₄) E s₃) E s₂) E s₁) E s) :
    wpAny (model prog w) A (exec (.Assign [.Name y py] (.ListComp elt (⟨target, iter, ifs, 0⟩ :: gs) scope pos) spos) env) Q E s := by
  rw [exec_Assign_Name_used _ _ _ _ hsw]
  refine wpAny_bind (wpAny_standAt (wpAny_bind ?_))
  show wpAny _ A (do let _ ← comprehension (.ListComp elt (⟨target, iter, ifs, 0⟩ :: gs) scope pos) scope env _ (newList []) false (eval iter env) (some (assign (.Name y py) env))) _ _ s
  exact wpAny_bind (wpAny_mono (wpAny_comprehension_free (use := some (assign (.Name y py) env)) (Q := fun _ s' => Q .next s') rfl hs hclos hkind hnames h) (fun _ s' hq => wpAny_pure (wpAny_pure hq)) fun _ _ e => e)
end
end Mine
namespace Mine
section
variable {prog : Program} {w : World} {A : Around} {E : Value → Shared → Prop} {s : Shared} {h₀ : Heap} {L C : Addr} {m m₂ : Str → Option Value} {env : Env} {scope : Scope} {cl : List (Str × Addr)} {rest : List (Addr × Obj)} {oC : Obj} {x : Str} {v : Value}
theorem store_C {Q : Unit → Shared → Prop} (hx : scope.names.lookup x = some .local) (hkind : scope.kind = .function) (F : Fr h₀ L s.heap m) (N : News h₀ L s.heap ((C, oC) :: rest)) (hC : NsObj oC m₂) (off : ∀ p ∈ rest, p.1 ≠ C)
    (h : ∀ h' oC', Fr h₀ L h' m → NsObj oC' (fun z => if z = x then some v else m₂ z) → News h₀ L h' ((C, oC') :: rest) → Q () { s with heap := h', toks := s.toks + 1 }) : wpAny (model prog w) A (storeName (compEnvC scope cl C env) x v) Q E s := by
  have zC := N _ List.mem_cons_self
  refine wpAny_storeName_local (lookup_relabel_local hx) (hC.ns zC.1) (fun h₃ hn₃ hs₃ => ?_) (by simp [compEnvC, relabel, hkind])
  obtain ⟨oC', heC, hoC⟩ := ns_obj hn₃
  refine h h₃ oC' (F.change hs₃ zC.2.1 zC.2.2) hoC fun p hp => ?_
  rcases List.mem_cons.mp hp with rfl | hp
  · exact ⟨heC, zC.2⟩
  · have z := N p (List.mem_cons_of_mem _ hp)
    exact ⟨hs₃.extBut _ _ (off p hp) z.1, z.2⟩
theorem name_C {Q : Value → Shared → Prop} {pos : Pos} (hx : scope.names.lookup x = some .local) (hkind : scope.kind = .function) (N : News h₀ L s.heap ((C, oC) :: rest)) (hC : NsObj oC m₂) (hv : m₂ x = some v) (h : Q v s) (hd : (x == ("__debug__" : Str)) = false := by decide) :
    wpAny (model prog w) A (eval (.Name x pos) (compEnvC scope cl C env)) Q E s :=
  wpAny_Name (wpAny_loadName_local hkind (lookup_relabel_local hx) (hC.ns (N _ List.mem_cons_self).1) hv h) hd
/-- the start of a list comprehension's clause, at any depth -/
theorem start_at {R : Result → Shared → Prop} {elt : Expr} {gs : List Comprehension} {scope : Scope} {pos : Pos} {d : Nat} {g : Comprehension} {it acc : Value} {cenv : Env} (hg : gs[d]? = some g) (hs : g.is_async = 0)
    (same : codeAny (model prog w) A (.compLoop (.ListComp elt gs scope pos) d it acc cenv) R s)
    (anew : wpAny (model prog w) A (pyIter it) (fun it' s' => codeAny (model prog w) A (.compLoop (.ListComp elt gs scope pos) d it' acc cenv) R s') (notedBy (model prog w) A cenv fun x s' => R (.error x) s') s) :
    codeAny (model prog w) A (.compStart (.ListComp elt gs scope pos) d it acc cenv) R s := by
  have tree : compStart (.ListComp elt gs scope pos) d it acc cenv = (ask >>= fun st => if st.params.followText "comprehension-iter-twice" = true then again (.compLoop (.ListComp elt gs scope pos) d it acc cenv)
      else rule "comprehension.iter-twice" >>= fun _ => standAt g.iter.pos >>= fun _ => pyIter it >>= fun it' => again (.compLoop (.ListComp elt gs scope pos) d it' acc cenv)) := by
    have one : (clausesOf (.ListComp elt gs scope pos))[d]? = some g := hg
    delta compStart
    simp only [one, hs, Option.elim, bne_self_eq_false, Bool.false_eq_true, if_false]
  refine codeAny_of_tree ?_
  show wpAny _ A (Sem.onRaise (compStart (.ListComp elt gs scope pos) d it acc cenv) _) _ _ s
  rw [tree]
  refine wpAny_notedAt (wpAny_bind (wpAny_askSetting (wpAny_ite ?_)))
  split
  · exact wpAny_pure ⟨rfl, same⟩
  · exact wpAny_bind (wpAny_rule (wpAny_bind (wpAny_standAt (wpAny_bind (wpAny_mono anew (fun _ _ k => wpAny_pure ⟨rfl, k⟩) fun _ _ k => k)))))
end
end Mine
end
section
open PySem PySem.W PyProof.Rows PySem.Spec PySem.Calls
open PyProof.Rows.LCg (lst NsObj ns_obj lst_snoc)
set_option maxRecDepth 100000
namespace Mine
theorem eqN {a b : Nat} (h : a = b) : a = b := h
section
variable {prog : Program} {w : World} {A : Around} {E : Value → Shared → Prop} {s : Shared} {h₀ : Heap} {L : Addr} {m : Str → Option Value} {env : Env}
/-- a list in the ledger, walked -/
theorem list_turns {target : Expr} {news : List (Addr × Obj)} {a : Addr} {vs : List Value} {n : Nat} (hh : A.handled = none) (F : Fr h₀ L s.heap m) (N : News h₀ L s.heap news) (hm : (a, listOf vs.toArray n) ∈ news) :
    KTurns prog w A target s.heap.objs.size [s.heap.objs.size, a] [s.heap.objs.size] vs.toArray.size (fun i v _ => vs.toArray[i]? = some v) (fun i v h => vs.toArray[i]? = some v ∧ (h.IsListIter s.heap.objs.size a (i + 1) ∧ h.IsList a vs.toArray)) (fun i h => h.IsListIter s.heap.objs.size a i ∧ h.IsList a vs.toArray) ∧
      L ∉ [s.heap.objs.size, a] ∧ (∀ b ∈ [s.heap.objs.size], h₀.get? b = none) ∧ (∀ p ∈ news, p.1 ∉ [s.heap.objs.size]) ∧ s.heap.IsList a vs.toArray := by
  have z := N _ hm
  have hlt : a < s.heap.objs.size := Heap.lt_size z.1
  refine ⟨KTurns.ofWalks (Walks.list hh s.heap.objs.size a (Nat.ne_of_lt hlt) vs.toArray) fun i v s Q E st q => letGo_listiter st.1 q, fun h => ?_, fun b hb => ?_, fun p hp hI => ?_, News.isList N hm⟩
  · rcases List.mem_cons.mp h with e | h
    · exact absurd F.ns.lt (e ▸ Nat.lt_irrefl _)
    · exact z.2.1 (List.mem_singleton.mp h).symm
  · rw [List.mem_singleton.mp hb]; exact next_is_new F
  · exact absurd (Heap.lt_size (N p hp).1) ((List.mem_singleton.mp hI) ▸ Nat.lt_irrefl _)
theorem take_flat {α β : Type} (f : α → List β) (l : List α) (i : Nat) (v : α) (h : l[i]? = some v) : (l.take (i + 1)).flatMap f = (l.take i).flatMap f ++ f v := by
  rw [List.take_add_one, h]; simp
theorem comp_two {i0 i1 ct : Expr} {x y : Str} {px py pe : Pos} {scope : Scope} {cl : List (Str × Addr)} {pos : Pos} {Q : Value → Shared → Prop} {va ra : Addr} {cvs vs : List Value} {c n : Nat} {news dl : List (Addr × Obj)} {ds rs : List Dat} (p : Dat → Dat → Bool)
    (hh : A.handled = none) (hclos : closureFor scope env = pure cl) (hcell : ∀ y ∈ scope.names, y.2 ≠ .cell) (hkind : scope.kind = .function) (hnames : ∀ x ∈ scope.names, x.2 = .local → scope.names.lookup x.1 = some .local)
    (hx : scope.names.lookup x = some .local) (hy : scope.names.lookup y = some .local) (hxy : x ≠ y) (hyd : (y == ("__debug__" : Str)) = false) (hs0 : ∀ z, foldedSetIterable i0 env z = pure z) (hs1 : ∀ C z, foldedSetIterable i1 (compEnvC scope cl C env) z = pure z)
    (F : Fr h₀ L s.heap m) (N : News h₀ L s.heap news) (hva : (va, listOf cvs.toArray c) ∈ news) (hra : (ra, listOf vs.toArray n) ∈ news) (hcd : DatAll dl cvs ds) (hvd : DatAll dl vs rs) (hz : ds.length ≤ 1000 ∧ rs.length ≤ 1000)
    (h0 : ∀ Q' : Value → Shared → Prop, Q' (.ref va) s → wpAny (model prog w) A (eval i0 env) Q' E s)
    (h1 : ∀ C oC led (s' : Shared) (Q' : Value → Shared → Prop) (E' : Value → Shared → Prop), News h₀ L s'.heap ((C, oC) :: led) → (∀ q ∈ news, q ∈ led) → Q' (.ref ra) s' → wpAny (model prog w) A (eval i1 (compEnvC scope cl C env)) Q' E' s')
    (ht : ∀ C oC m₂ led (s' : Shared) u v d r (Q' : Bool → Shared → Prop) (E' : Value → Shared → Prop), d ∈ ds → r ∈ rs → DatIn dl u d → DatIn dl v r → NsObj oC m₂ → m₂ x = some u → m₂ y = some v → News h₀ L s'.heap ((C, oC) :: led) → (∀ q ∈ news, q ∈ led) → Q' (p d r) s' →
      wpAny (model prog w) A (isTrue ct (compEnvC scope cl C env) (eval ct (compEnvC scope cl C env))) Q' E' s')
    (fin : ∀ D zs h' tk, Fr h₀ L h' m → News h₀ L h' ((D, lst zs) :: news) → (∀ q ∈ news, q.1 < D) → DatAll dl zs (ds.flatMap fun d => rs.filter (p d)) → Q (.ref D) { s with heap := h', toks := tk }) :
    wpAny (model prog w) A (eval (.ListComp (.Name y pe) [⟨.Name x px, i0, [], 0⟩, ⟨.Name y py, i1, [ct], 0⟩] scope pos) env) Q E s := by
  refine comp_eval hclos hkind hnames hs0 (h0 _ ?_)
  obtain ⟨KT, hLf, hwr, hnw, hl⟩ := list_turns (prog := prog) (w := w) (target := .Name x px) hh F N hva
  refine wpAny_pyIter_list hl ?_
  have up : ∀ b o, s.heap.get? b = some o → (s.heap.push { cls := .type "list_iterator", data := .fields #[.ref va, .int 0 0] }).get? b = some o := fun b o e => Heap.get?_push_of_some _ e
  have hvlt := ltN (Heap.lt_size (N _ hva).1)
  dsimp only at hvlt
  refine comp_at (s₂ := { s with heap := s.heap.push { cls := .type "list_iterator", data := .fields #[.ref va, .int 0 0] } }) (F.keeps up) (N.grown up) hcell hkind (fun s' Q' E' k q => ?_) ?_
  · exact wpAny_pyIter_listiter (i := 0) (l := va) ⟨_, k _ _ (Heap.get?_push_size _ rfl), rfl, rfl⟩ q
  intro D C oC h tk hD hC hoC F₁ N₁ k₁
  have hsz : (s.heap.push { cls := .type "list_iterator", data := .fields #[.ref va, .int 0 0] }).objs.size = s.heap.objs.size + 1 := Heap.size_push _ _
  simp only [hsz] at hD hC
  replace hD := eqN hD
  replace hC := eqN hC
  have hlt : ∀ q ∈ news, q.1 < s.heap.objs.size := fun q hq => Heap.lt_size (N q hq).1
  refine comp_loop (s := { s with heap := s.heap.push { cls := .type "list_iterator", data := .fields #[.ref va, .int 0 0] } }) (d := 0) KT (turn_out (hs1 C)) rfl rfl (Around.under_of_weight rfl rfl) hLf hwr (by simp only [List.mem_cons, List.not_mem_nil, or_false, not_or]; exact ⟨by refine neN ?_; omega, by refine neN ?_; omega⟩) (by simp only [List.mem_cons, List.not_mem_nil, or_false, not_or]; exact ⟨by refine neN ?_; omega, by refine neN ?_; omega⟩)
    (fun i _ ys led => led = news ∧ DatAll dl ys ((ds.take i).flatMap fun d => rs.filter (p d))) ?_ ?_ cvs.toArray.size 0 [] news h tk oC _ (by omega) ⟨⟨_, k₁ _ _ (Heap.get?_push_size _ rfl), rfl, rfl⟩, (hl.at fun o e => up _ _ e).at fun o e => k₁ _ _ e⟩ ⟨rfl, .nil⟩ hoC F₁ N₁ (fun q hq => ⟨by have := ltN (hlt q hq); refine neN ?_; omega, by have := ltN (hlt q hq); refine neN ?_; omega, hnw q hq⟩)
  · rintro i u ys₀ led h₂ tk₂ oC₂ m₂ own K₁ E' hi hu ⟨rfl, hys₀⟩ hown hC₂ F₂ N₂ off K₂
    have hil : i < ds.length := by rw [← hcd.length]; simpa using hi
    have hu' : cvs[i]? = some u := by simpa using hu
    obtain ⟨u', hu2, hud⟩ := hcd.get hil
    obtain rfl : u' = u := Option.some.inj (hu2.symm.trans hu')
    have hum : ds[i] ∈ ds := List.getElem_mem hil
    have offC : ∀ q ∈ (D, lst ys₀) :: (own ++ led), q.1 ≠ C := fun q hq => by
      rcases List.mem_cons.mp hq with rfl | hq
      · show D ≠ C; refine neN ?_; omega
      · rcases List.mem_append.mp hq with hq | hq
        · have := hown q hq
          simp only [List.mem_cons, List.not_mem_nil, or_false] at this
          rcases this with e | e <;> (replace e := eqN e; refine neN ?_; omega)
        · exact (off q hq).1
    refine wpAny_assign_Name (store_C hx hkind F₂ N₂ hC₂ offC fun h₃ oC₃ F₃ hC₃ N₃ => ?_)
    have hsub : ∀ q ∈ led, q ∈ (D, lst ys₀) :: (own ++ led) := fun q hq => List.mem_cons_of_mem _ (List.mem_append_right _ hq)
    refine h1 C oC₃ _ _ _ _ N₃ hsub ?_
    obtain ⟨KT', hLf', hwr', hnw', hl'⟩ := list_turns (prog := prog) (w := w) (s := { s with heap := h₃, toks := tk₂ + 1 }) (target := .Name y py) hh F₃ N₃ (List.mem_cons_of_mem _ (hsub _ hra))
    refine wpAny_pyIter_list hl' ?_
    have up' : ∀ b o, h₃.get? b = some o → (h₃.push { cls := .type "list_iterator", data := .fields #[.ref ra, .int 0 0] }).get? b = some o := fun b o e => Heap.get?_push_of_some _ e
    have hlt₃ : ∀ q ∈ (C, oC₃) :: (D, lst ys₀) :: (own ++ led), q.1 < h₃.objs.size := fun q hq => Heap.lt_size (N₃ q hq).1
    have hra₃ := ltN (hlt₃ _ (List.mem_cons_of_mem _ (hsub _ hra)))
    have hC₃l := ltN (hlt₃ _ List.mem_cons_self)
    have hD₃l := ltN (hlt₃ _ (List.mem_cons_of_mem _ List.mem_cons_self))
    have hral := ltN (hlt _ hra)
    dsimp only at hra₃ hC₃l hD₃l hral
    have lp : codeAny (model prog w) A (.compLoop (.ListComp (.Name y pe) [⟨.Name x px, i0, [], 0⟩, ⟨.Name y py, i1, [ct], 0⟩] scope pos) 1 (.ref h₃.objs.size) (.ref D) (compEnvC scope cl C env)) (fun r s3 => match r with | .ok _ => K₁ s3 | .error x => cameBackBy (model prog w) A (compEnvC scope cl C env) E' x s3) { s with heap := h₃.push { cls := .type "list_iterator", data := .fields #[.ref ra, .int 0 0] }, toks := tk₂ + 1 } := by
      refine comp_loop (s := s) (d := 1) KT' turn_in rfl rfl (Around.under_of_weight rfl rfl) hLf' hwr' (by simp only [List.mem_cons, List.not_mem_nil, or_false, not_or]; exact ⟨by refine neN ?_; omega, by refine neN ?_; omega⟩) (by simp only [List.mem_cons, List.not_mem_nil, or_false, not_or]; exact ⟨by refine neN ?_; omega, by refine neN ?_; omega⟩)
        (fun j m₄ ys led' => m₄ x = some u' ∧ led' = own ++ led ∧ DatAll dl ys (((ds.take i).flatMap fun d => rs.filter (p d)) ++ (rs.take j).filter (p ds[i]))) ?_ ?_ vs.toArray.size 0 _ (own ++ led) _ _ oC₃ _ (by omega) ⟨⟨_, Heap.get?_push_size _ rfl, rfl, rfl⟩, hl'.at fun o e => up' _ _ e⟩ ⟨by simp, rfl, by simpa using hys₀⟩ hC₃ (F₃.keeps up') (N₃.grown up') (fun q hq => ⟨offC q (List.mem_cons_of_mem _ hq), ?_, ?_⟩)
      · rintro j v ys led' h₄ tk₄ oC₄ m₄ own' K₄ E₄ hj hv ⟨hmx, rfl, hys⟩ hown' hC₄ F₄ N₄ off₄ K₅
        have hjl : j < rs.length := by rw [← hvd.length]; simpa using hj
        have hv' : vs[j]? = some v := by simpa using hv
        obtain ⟨v', hv2, hvd'⟩ := hvd.get hjl
        obtain rfl : v' = v := Option.some.inj (hv2.symm.trans hv')
        have hvm : rs[j] ∈ rs := List.getElem_mem hjl
        have offC₄ : ∀ q ∈ (D, lst ys) :: (own' ++ (own ++ led)), q.1 ≠ C := fun q hq => by
          rcases List.mem_cons.mp hq with rfl | hq
          · show D ≠ C; refine neN ?_; omega
          · rcases List.mem_append.mp hq with hq | hq
            · have := hown' q hq
              simp only [List.mem_cons, List.not_mem_nil, or_false] at this
              rcases this with e | e <;> (replace e := eqN e; refine neN ?_; omega)
            · exact (off₄ q hq).1
        refine wpAny_assign_Name (store_C hy hkind F₄ N₄ hC₄ offC₄ fun h₅ oC₅ F₅ hC₅ N₅ => ?_)
        have hmx₅ : (fun z => if z = y then some v' else m₄ z) x = some u' := by simp [hxy, hmx]
        refine ht C oC₅ _ _ _ u' v' _ _ _ _ hum hvm hud hvd' hC₅ hmx₅ (by simp) N₅ (fun q hq => List.mem_cons_of_mem _ (List.mem_append_right _ (List.mem_append_right _ hq))) ?_
        have hfl : (rs.take (j + 1)).filter (p ds[i]) = (rs.take j).filter (p ds[i]) ++ (if p ds[i] rs[j] then [rs[j]] else []) := take_succ_filter _ _ _ _ (List.getElem?_eq_getElem hjl)
        cases hpv : p ds[i] rs[j] with
        | false =>
          simp only [Bool.false_eq_true, if_false]
          rw [hpv] at hfl
          refine K₅ _ ⟨h₅, _, oC₅, _, ys, own ++ led, rfl, F₅, hC₅, N₅, off₄, hmx₅, rfl, ?_⟩
          rw [hfl]; simpa using hys
        | true =>
          simp only [if_true]
          rw [hpv] at hfl
          refine name_C (v := v') hy hkind N₅ hC₅ (by simp) ?_ hyd
          have zD := N₅ (D, lst ys) (List.mem_cons_of_mem _ List.mem_cons_self)
          have hyz : ys.length ≤ sizeLine := by
            have a1 : ((ds.take i).flatMap fun d => rs.filter (p d)).length ≤ i * rs.length := by
              have : ∀ l : List Dat, (l.flatMap fun d => rs.filter (p d)).length ≤ l.length * rs.length := fun l => by
                induction l with
                | nil => simp
                | cons a r ih =>
                  rw [List.flatMap_cons, List.length_append, List.length_cons, Nat.succ_mul]
                  have := List.length_filter_le (p a) rs
                  omega
              exact Nat.le_trans (this _) (Nat.mul_le_mul_right _ (by rw [List.length_take]; omega))
            have a2 : i * rs.length ≤ 1000 * 1000 := Nat.mul_le_mul (by omega) hz.2
            have a3 := List.length_filter_le (p ds[i]) (rs.take j)
            rw [hys.length, List.length_append, sizeLine_eq]
            rw [List.length_take] at a3
            omega
          refine append_at (hsz := by show ys.toArray.size ≤ sizeLine; rw [List.size_toArray]; exact hyz) zD.1 fun h₆ hs₆ hD₆ => ?_
          refine K₅ _ ⟨h₆, _, oC₅, _, ys ++ [v'], own ++ led, rfl, F₅.change hs₆ zD.2.1 zD.2.2, hC₅, fun q hq => ?_, off₄, hmx₅, rfl, ?_⟩
          · rcases List.mem_cons.mp hq with rfl | hq
            · have z := N₅ _ List.mem_cons_self
              exact ⟨hs₆.extBut _ _ (by show C ≠ D; refine neN ?_; omega) z.1, z.2⟩
            · rcases List.mem_cons.mp hq with rfl | hq
              · exact ⟨hD₆.trans (congrArg some (lst_snoc ys v')), zD.2⟩
              · have z := N₅ _ (List.mem_cons_of_mem _ (List.mem_cons_of_mem _ hq))
                refine ⟨hs₆.extBut _ _ ?_ z.1, z.2⟩
                rcases List.mem_append.mp hq with hq | hq
                · have := hown' q hq
                  simp only [List.mem_cons, List.not_mem_nil, or_false] at this
                  rcases this with e | e <;> (replace e := eqN e; refine neN ?_; omega)
                · exact (off₄ q hq).2.1
          · rw [hfl, ← List.append_assoc]; simpa using hys.append (.one hvd')
      · rintro ys led' h₄ tk₄ oC₄ m₄ ⟨hmx, rfl, hys⟩ hC₄ F₄ N₄ off₄
        refine K₂ _ ⟨h₄, tk₄, oC₄, m₄, ys, led, rfl, F₄, hC₄, N₄, fun q hq => ?_, rfl, ?_⟩
        · exact ⟨(off q hq).1, (off q hq).2.1, (off q hq).2.2⟩
        · rw [take_flat _ _ _ _ (List.getElem?_eq_getElem hil)]
          rw [List.size_toArray, hvd.length, List.take_length] at hys
          exact hys
      · rcases List.mem_append.mp hq with hq | hq
        · have := hown q hq
          simp only [List.mem_cons, List.not_mem_nil, or_false] at this
          rcases this with e | e <;> (replace e := eqN e; refine neN ?_; omega)
        · exact (off q hq).2.1
      · intro hI
        have := hlt₃ q (List.mem_cons_of_mem _ (List.mem_cons_of_mem _ hq))
        rw [List.mem_singleton.mp hI] at this
        exact Nat.lt_irrefl _ this
    refine start_at rfl rfl lp (wpAny_pyIter_listiter (i := 0) (l := ra) ⟨_, Heap.get?_push_size _ rfl, rfl, rfl⟩ lp)
  · rintro ys led h₂ tk₂ oC₂ m₂ ⟨rfl, hys⟩ hC₂ F₂ N₂ off
    rw [List.size_toArray, hcd.length, List.take_length] at hys
    refine post_none hC₂ F₂ N₂ (by refine neN ?_; omega) (fun q hq => (off q hq).1) fun h₃ F₃ N₃ => ?_
    exact fin D ys h₃ tk₂ F₃ N₃ (fun q hq => by have := ltN (hlt q hq); refine ltN ?_; omega) hys
end
end Mine
end
section
open PySem PySem.W PyProof.Rows PySem.Spec
set_option maxRecDepth 100000
namespace Mine
section
variable {prog : Program} {w : World} {A : Around} {E : Value → Shared → Prop} {s : Shared} {h₀ : Heap} {L : Addr} {news dl : List (Addr × Obj)} {u v : Value} {c d : Dat} {Q : Value → Shared → Prop}
open Classical in
theorem dat_eqv (hc : kqdOk 8 c = true) (hd : kqdOk 8 d = true) : PyData.eqv (kqdP c) (kqdP d) = decide (c = d) := by
  have q := kqd_eqv 8 c d 8 hc hd
  by_cases hq : c = d
  · rw [decide_eq_true hq]; exact q.mpr hq
  · rw [decide_eq_false hq]; exact Bool.eq_false_iff.mpr fun x => hq (q.mp x)
theorem dat_shaped (hc : kqdOk 8 c = true) : SeqAt.shaped (kqdP c) = true := by
  have l := kqd_lay 8 c hc
  unfold SeqAt.shaped
  rw [l.1, Bool.true_and]
  exact decide_eq_true (Nat.le_trans l.2 (by decide))
open Classical in
theorem dat_eq (N : News h₀ L s.heap news) (hu : DatIn dl u c) (hv : DatIn dl v d) (hs : ∀ q ∈ dl, q ∈ news) (hc : kqdOk 8 c = true) (hd : kqdOk 8 d = true) (hA : A.units + 64 < cLine) (h : Q (.bool (decide (c = d))) s) : wpAny (model prog w) A (compareOp .Eq u v) Q E s := by
  obtain ⟨as, ra⟩ := kqd_in N 8 (hu.mono hs) hc
  obtain ⟨bs, rb⟩ := kqd_in N 8 (hv.mono hs) hd
  exact eq_dataH ra rb (dat_shaped hc) (dat_shaped hd) hA (by rw [dat_eqv hc hd]; exact h)
open Classical in
theorem dat_ne (N : News h₀ L s.heap news) (hu : DatIn dl u c) (hv : DatIn dl v d) (hs : ∀ q ∈ dl, q ∈ news) (hc : kqdOk 8 c = true) (hd : kqdOk 8 d = true) (hA : A.units + 64 < cLine) (h : Q (.bool (!decide (c = d))) s) : wpAny (model prog w) A (compareOp .NotEq u v) Q E s := by
  obtain ⟨as, ra⟩ := kqd_in N 8 (hu.mono hs) hc
  obtain ⟨bs, rb⟩ := kqd_in N 8 (hv.mono hs) hd
  exact ne_dataH ra rb (dat_shaped hc) (dat_shaped hd) hA (by rw [dat_eqv hc hd]; exact h)
end
end Mine
end
section
open PySem PySem.W PyProof.Rows
set_option maxRecDepth 100000
set_option maxHeartbeats 2000000
namespace Mine
local macro_rules | `(tactic| walk_at "eval Name") => `(tactic| (k_here; k_dflt (refine' nameX_L ?k1 ?k2 ?_; (case k1 => k_asm); (case k2 => assumption); k_whole)))
local macro_rules | `(tactic| walk_at "eval Name") => `(tactic| (k_here; k_dflt (refine' nameX_L ?k1 ?k2 ?_; (case k1 => k_asm); (case k2 => assumption); k_whole)))
theorem fill_Co : (fun (_ : OpenLaw) (_ : Params → Frag) => True) PySem.Challenge.rw_dz0085_01 hd.heap_39 := by
  k_fill
  trivial
open Classical in
/-- what _law_column gives -/
def ColOut (k : Int × Int) (rows out : List Dat) : Prop := ∃ es, es.Perm (valuesD k.1 [] rows) ∧ es.Pairwise (fun a b => cellLt a b = true) ∧ out = (dirD k.2 es).flatMap fun d => rows.filter fun r => decide (cellD r k.1 = d)
theorem column_call {prog : Program} {w : World} {p : Program} {loose : List Str} {mean : ExcName → Option Value} {mg mb : Str → Option Value} {b : Bool} (rows : List Dat) (k : Int × Int) (hko : KeyOk k) (dp un : Nat) (gd : Option (List Code)) (cn : Str) (cs : Scope) (a : Addr) (ccd : Value) (cl : List (Str × Addr)) (outer : List Env) (A₀ : Around) (base h₀ : Heap) (L : Addr) (m : Str → Option Value) (dl news : List (Addr × Obj)) (s : Shared)
    (ra : Addr) (vs : List Value) (n : Nat) (ti td : Tok) (Q E : Value → Shared → Prop)
    (B : Below A₀ base outer h₀) (F : Fr h₀ L s.heap m) (X : (hd.heap_39 w.params).In h₀) (N : News h₀ L s.heap news) (T : Top p loose mean mg mb h₀) (hk : cs.kind = .function)
    (hdp : dp + 20 < recursionLimit) (hun : un + 400 < cLine) (h24 : rows.length ≤ 24) (hdl : ∀ q ∈ dl, q ∈ news) (hra : (ra, listOf vs.toArray n) ∈ news) (hvs : DatAll dl vs rows) (hrows : ∀ r ∈ rows, RowK b r)
    (ret : ∀ D zs c out h' tk', Fr h₀ L h' m → News h₀ L h' ((D, listOf (List.toArray zs) c) :: news) → (∀ q ∈ news, q.1 < D) → DatAll dl zs out → ColOut k rows out → Q (.ref D) { s with heap := h', toks := tk' }) :
    wpAny (model prog w) (ktrTop dp un gd cn cs L a ccd cl outer) (call (.ref 54) [.ref ra, .int k.1 ti, .int k.2 td]) Q E s := by
  w_top off
  refine wpAny_call ?_
  k_dflt (refine' code_defC (binds := [(Str.ofString "rows", .ref ra), (Str.ofString "index", .int k.1 ti), (Str.ofString "direction", .int k.2 td)]) B F X N T rfl rfl hk ?k6 ?k7 ?k8 ?k9 ?kB ?kD ?kk ?c2 ?c3 ?c4)
  case k6 => k_is
  case k7 => k_is
  case k8 => show dp < recursionLimit; omega
  case k9 => exact BindsTo.of_eq rfl
  case kB => exact rfl
  case kD => decide +kernel
  case c2 => exact rfl
  case c3 => exact rfl
  case c4 => exact rfl
  intro g L' h' tk₀ cells FG F' N' Y B' X' T' lL
  obtain ⟨o1, o2, hE, d1, d2⟩ := CellsAre.two Y
  subst hE
  clear Y
  refine noE ?_
  simp only [List.cons_append, List.nil_append] at N'
  replace d1 : o1.data = .cell (some (.int k.1 ti)) := d1
  replace d2 : o2.data = .cell (some (.ref ra)) := d2
  obtain ⟨m₀, F₀, hdir⟩ : ∃ m₀, Fr g L' h' m₀ ∧ m₀ (Str.ofString "direction") = some (.int k.2 td) := ⟨_, F', rfl⟩
  clear F'
  obtain ⟨led, N₀, hl1, hl2, hsub⟩ : ∃ led, News g L' h' led ∧ (L' + 1 + 1, o1) ∈ led ∧ (L' + 1, o2) ∈ led ∧ (∀ q ∈ news, q ∈ led) := ⟨_, N', List.mem_cons_self, List.mem_cons_of_mem _ List.mem_cons_self, fun q hq => List.mem_cons_of_mem _ (List.mem_cons_of_mem _ hq)⟩
  clear N'
  iterate 4 walk1
  refine newList_K F₀ N₀ (fun va h₁ F₁ N₁ l₁ => ?_) (by decide)
  iterate 3 walk1
  rename Fr _ _ _ _ => FX
  rename News _ _ _ _ => NX
  refine For_turns FX ?_ (fun _ => rfl)
  refine nameX_C NX rfl (List.mem_cons_of_mem _ hl2) d2 ?_
  refine iter_listTurns (lo := listOf vs.toArray n) rfl FX NX (List.mem_cons_of_mem _ (hsub _ hra)) rfl rfl (fun I hI => ?_)
  obtain ⟨m₁, hm₁, hv₁, hdir₁⟩ : ∃ m₁ : Str → Option Value, m₁ = (fun y => if y = Str.ofString "values" then some (Value.ref va) else m₀ y) ∧ m₁ (Str.ofString "values") = some (.ref va) ∧ m₁ (Str.ofString "direction") = some (.int k.2 td) := ⟨_, rfl, rfl, hdir⟩
  rw [← hm₁]
  clear hm₁ FX NX
  have hI0 : ∀ p ∈ led, p.1 ≠ I := fun p hp => Nat.ne_of_lt (hI p (List.mem_cons_of_mem _ hp))
  have hvI : va ≠ I := Nat.ne_of_lt (hI _ List.mem_cons_self)
  have hva : ∀ p ∈ led, p.1 ≠ va := fun p hp => Nat.ne_of_lt (l₁ p hp)
  clear hI
  obtain ⟨us, hus⟩ : ∃ us, us = vs := ⟨_, rfl⟩
  obtain ⟨rs, hrs⟩ : ∃ rs, rs = rows := ⟨_, rfl⟩
  have hds : DatAll dl us rs := by rw [hus, hrs]; exact hvs
  have hrk : ∀ r ∈ rs, RowK b r := by rw [hrs]; exact hrows
  rw [show vs.map Itm.val = us.map Itm.val by rw [hus]]
  obtain ⟨cvs, hcvs⟩ : ∃ cvs : List Value, cvs = [] := ⟨_, rfl⟩
  obtain ⟨acc, hacc⟩ : ∃ acc : List Dat, acc = [] := ⟨_, rfl⟩
  have hcd : DatAll dl cvs acc := by rw [hcvs, hacc]; exact .nil
  have hfin : valuesD k.1 [] rows = valuesD k.1 acc rs := by rw [hrs, hacc]
  have hlen : acc.length + rs.length ≤ 24 := by rw [hrs, hacc]; simpa using h24
  have hok : ∀ d ∈ acc, kqdOk 8 d = true := by rw [hacc]; intro d hd; cases hd
  obtain ⟨c, hc⟩ : ∃ c : Nat, c = 0 := ⟨_, rfl⟩
  rw [show ((va, listOf (List.toArray []) 0) : Addr × Obj) = (va, listOf (List.toArray cvs) c) by rw [hcvs, hc]]
  clear hus hrs hcvs hacc hc
  induction us generalizing rs m₁ cvs acc c with
  | nil =>
    cases hds
    refine ItemsRest.zero ?_
    intro h₂ tk₂ F₂ N₂
    replace F₂ : Fr g L' h₂ m₁ := F₂
    replace N₂ : News g L' h₂ ((va, listOf (List.toArray cvs) c) :: led) := N₂
    dsimp only
    rw [valuesD] at hfin
    iterate 7 walk1
    refine nameX_L F₂ hv₁ ?_
    iterate 1 walk1
    have hdl3 : ∀ q ∈ dl, q ∈ (va, listOf (List.toArray cvs) c) :: led := fun q hq => List.mem_cons_of_mem _ (hsub q (hdl q hq))
    have hnd : acc.Nodup := by rw [← hfin]; exact valuesD_nodup _ _ _ List.nodup_nil
    have hck : ∀ d ∈ acc, CellOf (kindOf b k.1) d := by
      intro d hd
      rw [← hfin, valuesD_mem] at hd
      rcases hd with hd | ⟨r, hr, rfl⟩
      · cases hd
      · exact row_kind (hrows r hr) hko
    refine sorted_data F₂ N₂ List.mem_cons_self hdl3 hcd hck hnd (by omega) ?_
    intro D₃ zs₃ es₃ c₃ h₃ F₃ N₃ l₃ hz₃ hp₃ ho₃
    iterate 4 walk1
    refine nameX_L F₃ hdir₁ ?_
    have hel : es₃.length ≤ 24 := by rw [hp₃.length_eq]; omega
    refine slice_dir hko.2 F₃ N₃ List.mem_cons_self hz₃ (by omega) ?_ (by with_unfolding_all rfl)
    intro D₄ us₄ h₄ F₄ N₄ l₄ hz₄
    iterate 3 walk1
    rename Fr _ _ _ _ => F₅
    rename News _ _ _ _ => N₅
    iterate 1 walk1
    classical
    have hdl5 : ∀ q ∈ dl, q ∈ (D₄, listOf (List.toArray us₄) 0) :: (D₃, listOf (List.toArray zs₃) c₃) :: (va, listOf (List.toArray cvs) c) :: led := fun q hq => List.mem_cons_of_mem _ (List.mem_cons_of_mem _ (hdl3 q hq))
    have hl25 : (L' + 1, o2) ∈ (D₄, listOf (List.toArray us₄) 0) :: (D₃, listOf (List.toArray zs₃) c₃) :: (va, listOf (List.toArray cvs) c) :: led := List.mem_cons_of_mem _ (List.mem_cons_of_mem _ (List.mem_cons_of_mem _ hl2))
    have hl15 : (L' + 1 + 1, o1) ∈ (D₄, listOf (List.toArray us₄) 0) :: (D₃, listOf (List.toArray zs₃) c₃) :: (va, listOf (List.toArray cvs) c) :: led := List.mem_cons_of_mem _ (List.mem_cons_of_mem _ (List.mem_cons_of_mem _ hl1))
    have hek : ∀ d ∈ dirD k.2 es₃, kqdOk 8 d = true := by
      intro d hd
      have hd' : d ∈ es₃ := by
        unfold dirD at hd
        split at hd
        · exact hd
        · exact List.mem_reverse.mp hd
      exact hok d (hp₃.mem_iff.mp hd')
    refine comp_two (dl := dl) (ds := dirD k.2 es₃) (rs := rows) (fun d r => decide (cellD r k.1 = d)) rfl (by with_unfolding_all rfl) (by decide) rfl (by decide) rfl rfl (by decide) (by decide) (fun _ => rfl) (fun _ _ => rfl) F₅ N₅ List.mem_cons_self (List.mem_cons_of_mem _ (List.mem_cons_of_mem _ (List.mem_cons_of_mem _ (hsub _ hra)))) hz₄ hvs ?_ ?_ ?_ ?_ ?_
    · constructor
      · unfold dirD; split
        · omega
        · rw [List.length_reverse]; omega
      · omega
    · intro Q' hQ
      exact nameX_L F₅ rfl hQ
    · intro C oC led' s' Q' E' N' hs' hQ
      exact kcf_cell N' rfl (List.mem_cons_of_mem _ (hs' _ hl25)) d2 hQ
    · intro C oC m₆ led' s' u v d r Q' E' hd hr hu hv hC hmx hmy N' hs' hQ
      have hdl6 : ∀ q ∈ dl, q ∈ (C, oC) :: led' := fun q hq => List.mem_cons_of_mem _ (hs' _ (hdl5 q hq))
      refine wpAny_isTrue_Compare1 (Subscript_ ?_)
      refine name_C (v := v) rfl rfl N' hC hmy ?_
      refine kcf_cell N' rfl (List.mem_cons_of_mem _ (hs' _ hl15)) d1 ?_
      refine row_item N' hv hdl6 (hrows r hr) hko.1 (fun c1 hc1 => ?_)
      refine name_C (v := u) rfl rfl N' hC hmx ?_
      refine dat_eq N' hc1 hu hdl6 (row_ok (hrows r hr) hko) (hek d hd) (show un + 3 + 64 < cLine by omega) ?_
      exact wpAny_truthy_bool hQ
    · intro D₆ zs₆ h₆ tk₆ F₆ N₆ l₆ hz₆
      dsimp only
      refine leaveK_ (news' := (D₆, listOf (List.toArray zs₆) zs₆.length) :: news) F₆ (fun q hq => ?_) (fun F₇ N₇ => ?_)
      · rcases List.mem_cons.mp hq with rfl | hq
        · exact N₆ _ List.mem_cons_self
        · exact N₆ _ (List.mem_cons_of_mem _ (List.mem_cons_of_mem _ (List.mem_cons_of_mem _ (List.mem_cons_of_mem _ (hsub q hq)))))
      · dsimp only
        refine ret D₆ zs₆ _ _ _ _ F₇ N₇ (fun q hq => l₆ q (List.mem_cons_of_mem _ (List.mem_cons_of_mem _ (List.mem_cons_of_mem _ (hsub q hq))))) hz₆ ⟨es₃, ?_, ho₃, rfl⟩
        rw [hfin]
        exact hp₃
  | cons u us ih =>
    cases hds with
    | @cons _ _ r rs hr hds =>
    refine ItemsRest.val (fun h₂ tk₂ F₂ => AllObj.cons (fun o₂ ho₂ => AllObj.nil (fun N₂ => ?_)))
    replace F₂ : Fr g L' h₂ m₁ := F₂
    replace N₂ : News g L' h₂ ((I, o₂) :: (va, listOf (List.toArray cvs) c) :: led) := N₂
    have hrk1 := hrk r List.mem_cons_self
    iterate 2 walk1
    rename Fr _ _ _ _ => F₃
    rename News _ _ _ _ => N₃
    iterate 5 walk1
    refine nameX_L F₃ rfl ?_
    refine nameX_C N₃ rfl (List.mem_cons_of_mem _ (List.mem_cons_of_mem _ hl1)) d1 ?_
    have hdl3 : ∀ q ∈ dl, q ∈ (I, o₂) :: (va, listOf (List.toArray cvs) c) :: led := fun q hq => List.mem_cons_of_mem _ (List.mem_cons_of_mem _ (hsub q (hdl q hq)))
    refine row_item N₃ hr hdl3 hrk1 hko.1 (fun c1 hc1 => ?_)
    refine nameX_L F₃ hv₁ ?_
    have hok1 : kqdOk 8 (cellD r k.1) = true := row_ok hrk1 hko
    refine kqd_notIn N₃ (List.mem_cons_of_mem _ List.mem_cons_self) rfl rfl hcd hdl3 hc1 hdl3 hok hok1 (show un + 3 + 64 < cLine by omega) ?_
    walk1
    classical
    by_cases hin : cellD r k.1 ∈ acc
    · rw [decide_eq_true hin]
      iterate 4 walk1
      refine ⟨_, _, _, (va, listOf (List.toArray cvs) c) :: led, rfl, F₃, N₃, ?_, ⟨List.mem_cons_of_mem _ (hsub _ hra), trivial⟩, ih _ ?_ ?_ rs hds (fun r hr => hrk r (List.mem_cons_of_mem _ hr)) cvs acc hcd ?_ ?_ hok c⟩
      · intro p hp q hq
        rw [List.mem_singleton.mp hq]
        rcases List.mem_cons.mp hp with rfl | hp
        · exact hvI
        · exact hI0 p hp
      · exact hv₁
      · exact hdir₁
      · rw [hfin, valuesD, if_pos hin]
      · simp only [List.length_cons] at hlen; omega
    · rw [decide_eq_false hin]
      iterate 9 walk1
      refine nameX_L F₃ rfl ?_
      refine nameX_C N₃ rfl (List.mem_cons_of_mem _ (List.mem_cons_of_mem _ hl1)) d1 ?_
      refine row_item N₃ hr hdl3 hrk1 hko.1 (fun c2 hc2 => ?_)
      walk1
      refine append_K F₃ N₃ (Upd.tail (Ne.symm hvI) (Upd.head hva)) (fun h₄ F₄ N₄ => ?_) (by rw [List.size_toArray, hcd.length]; exact Nat.le_trans (show acc.length ≤ 24 by omega) (by decide))
      rw [List.push_toArray] at N₄
      iterate 4 walk1
      refine ⟨_, _, _, (va, listOf (List.toArray (cvs ++ [c2])) (c + 1)) :: led, rfl, F₄, N₄, ?_, ⟨List.mem_cons_of_mem _ (hsub _ hra), trivial⟩, ih _ ?_ ?_ rs hds (fun r hr => hrk r (List.mem_cons_of_mem _ hr)) (cvs ++ [c2]) (acc ++ [cellD r k.1]) (hcd.append (.one hc2)) ?_ ?_ ?_ (c + 1)⟩
      · intro p hp q hq
        rw [List.mem_singleton.mp hq]
        rcases List.mem_cons.mp hp with rfl | hp
        · exact hvI
        · exact hI0 p hp
      · exact hv₁
      · exact hdir₁
      · rw [hfin, valuesD, if_neg hin]
      · simp only [List.length_cons, List.length_append, List.length_nil] at hlen ⊢; omega
      · intro d hd
        rcases List.mem_append.mp hd with hd | hd
        · exact hok d hd
        · rw [List.mem_singleton.mp hd]; exact hok1
end Mine
end
section
open PySem PySem.W PyProof.Rows PySem.Spec PySem.Calls
open PyProof.Rows.LCg (lst NsObj ns_obj lst_snoc)
set_option maxRecDepth 100000
namespace Mine
section
variable {prog : Program} {w : World} {A : Around} {E : Value → Shared → Prop} {s : Shared} {h₀ : Heap} {L C D I : Addr} {m m₂ : Str → Option Value} {env : Env} {scope : Scope} {cl : List (Str × Addr)} {oC : Obj}
/-- a pair's two names in a comprehension -/
theorem pair_C {rest : List (Addr × Obj)} {Q : Unit → Shared → Prop} {x y : Str} {px py tp : Pos} {tk : Nat} {T : Addr} {u v : Value} (hh : A.handled = none) (hx : scope.names.lookup x = some .local) (hy : scope.names.lookup y = some .local) (hkind : scope.kind = .function) (F : Fr h₀ L s.heap m) (N : News h₀ L s.heap ((C, oC) :: rest)) (hC : NsObj oC m₂) (off : ∀ p ∈ rest, p.1 ≠ C) (hT : s.heap.IsTuple T #[u, v])
    (h : ∀ h' oC' tk', Fr h₀ L h' m → NsObj oC' (fun z => if z = y then some v else if z = x then some u else m₂ z) → News h₀ L h' ((C, oC') :: rest) → Q () { s with heap := h', toks := tk' }) :
    wpAny (model prog w) A (assign (.Tuple [.Name x px, .Name y py] tk tp) (compEnvC scope cl C env) (.ref T)) Q E s := by
  refine assign_Tuple_tuple hh hT rfl rfl fun h₅ he => ?_
  have he' : ∀ b o, s.heap.get? b = some o → h₅.get? b = some o := fun b o e => he b o (Nat.ne_of_lt (Heap.lt_size e)) e
  refine assignInOrder_cons (wpAny_assign_Name (store_C (s := { s with heap := h₅ }) hx hkind (F.keeps he') (N.grown he') hC off fun h₆ oC₆ F₆ hC₆ N₆ => ?_))
  refine assignInOrder_cons (wpAny_assign_Name (store_C hy hkind F₆ N₆ hC₆ off fun h₇ oC₇ F₇ hC₇ N₇ => ?_))
  exact assignInOrder_nil (h _ _ _ F₇ hC₇ N₇)
/-- the element laid in the list -/
theorem elt_end {wr : List Addr} {own led led₂ : List (Addr × Obj)} {J : (Str → Option Value) → List Value → List (Addr × Obj) → Prop} {K₁ : Shared → Prop} {h₄ : Heap} {tk : Nat} {y : Value} {ys : List Value} (F : Fr h₀ L h₄ m) (N : News h₀ L h₄ (led₂ ++ (C, oC) :: (D, lst ys) :: (own ++ led))) (hC : NsObj oC m₂)
    (hord : ∀ q ∈ (C, oC) :: (D, lst ys) :: (own ++ led), ∀ z ∈ led₂, q.1 < z.1) (off : ∀ p ∈ led, p.1 ≠ C ∧ p.1 ≠ D ∧ p.1 ∉ wr) (hown : ∀ p ∈ own, p.1 ≠ D) (hCD : C ≠ D) (hwr : ∀ b ∈ wr, b < D) (hsz : ys.length ≤ sizeLine) (hj : J m₂ (ys ++ [y]) (led₂ ++ led))
    (K : ∀ s', TurnEnd h₀ L m s C D wr own J s' → K₁ s') : wpAny (model prog w) A (call (.builtin "list.append") [.ref D, y]) (fun _ s'' => K₁ s'') E { s with heap := h₄, toks := tk } := by
  have zD := N (D, lst ys) (List.mem_append_right _ (List.mem_cons_of_mem _ List.mem_cons_self))
  refine append_at (hsz := by show ys.toArray.size ≤ sizeLine; rw [List.size_toArray]; exact hsz) zD.1 fun h₆ hs₆ hD₆ => ?_
  refine K _ ⟨h₆, _, oC, _, ys ++ [y], led₂ ++ led, rfl, F.change hs₆ zD.2.1 zD.2.2, hC, fun q hq => ?_, fun q hq => ?_, hj⟩
  · rcases List.mem_cons.mp hq with rfl | hq
    · have z := N (C, oC) (List.mem_append_right _ List.mem_cons_self)
      exact ⟨hs₆.extBut _ _ hCD z.1, z.2⟩
    · rcases List.mem_cons.mp hq with rfl | hq
      · exact ⟨hD₆.trans (congrArg some (lst_snoc ys y)), zD.2⟩
      · have hin : q ∈ led₂ ++ (C, oC) :: (D, lst ys) :: (own ++ led) := by
          rcases List.mem_append.mp hq with hq | hq
          · exact List.mem_append_right _ (List.mem_cons_of_mem _ (List.mem_cons_of_mem _ (List.mem_append_left _ hq)))
          · rcases List.mem_append.mp hq with hq | hq
            · exact List.mem_append_left _ hq
            · exact List.mem_append_right _ (List.mem_cons_of_mem _ (List.mem_cons_of_mem _ (List.mem_append_right _ hq)))
        have z := N q hin
        refine ⟨hs₆.extBut _ _ ?_ z.1, z.2⟩
        rcases List.mem_append.mp hq with hq | hq
        · exact hown q hq
        · rcases List.mem_append.mp hq with hq | hq
          · exact Nat.ne_of_gt (hord (D, lst ys) (List.mem_cons_of_mem _ List.mem_cons_self) q hq)
          · exact (off q hq).2.1
  · rcases List.mem_append.mp hq with hq | hq
    · have h1 := hord (D, lst ys) (List.mem_cons_of_mem _ List.mem_cons_self) q hq
      exact ⟨Nat.ne_of_gt (hord (C, oC) List.mem_cons_self q hq), Nat.ne_of_gt h1, fun hw => Nat.lt_asymm h1 (hwr _ hw)⟩
    · exact off q hq
/-- a comprehension of one clause, run -/
theorem comp_run {elt target iter : Expr} {ifs : List Expr} {pos : Pos} {fp wr : List Addr} {n : Nat} {P Md : Nat → Value → Heap → Prop} {St : Nat → Heap → Prop} {news : List (Addr × Obj)} {RR : Value → Addr → Result → Shared → Prop}
    (W : Addr → Addr → (Shared → Prop) → (Value → Shared → Prop) → Shared → Prop) (TG : Nat → (Str → Option Value) → Prop) (J : Nat → List Value → List (Addr × Obj) → Prop)
    (KT : KTurns prog w A target I fp wr n P Md St) (TI : ∀ C D, TurnIs prog w A (.ListComp elt [⟨target, iter, ifs, 0⟩] scope pos) 0 I D (compEnvC scope cl C env) target (W C D))
    (F : Fr h₀ L s.heap m) (N : News h₀ L s.heap news) (hcell : ∀ y ∈ scope.names, y.2 ≠ .cell) (hkind : scope.kind = .function)
    (hself : ∀ (s' : Shared) (Q : Value → Shared → Prop) (E : Value → Shared → Prop), (∀ b o, s.heap.get? b = some o → s'.heap.get? b = some o) → Q (.ref I) s' → wpAny (model prog w) A (pyIter (.ref I)) Q E s')
    (hU : ∀ D C, A.under (.compLoop (.ListComp elt [⟨target, iter, ifs, 0⟩] scope pos) 0 (.ref I) (.ref D) (compEnvC scope cl C env)) = A)
    (hst : St 0 s.heap) (hLf : L ∉ fp) (hwr : ∀ b ∈ wr, h₀.get? b = none) (hfp : ∀ b ∈ fp, b < s.heap.objs.size) (hoff : ∀ p ∈ news, p.1 ∉ wr) (h0 : J 0 [] [])
    (tgt : ∀ i v h tk oC m₂ C rest (Q : Unit → Shared → Prop) (E : Value → Shared → Prop), i < n → P i v h → NsObj oC m₂ → Fr h₀ L h m → News h₀ L h ((C, oC) :: rest) → (∀ p ∈ news, p ∈ rest) → (∀ p ∈ rest, p.1 ≠ C) → (∀ h' oC' tk' m₃, TG i m₃ → Fr h₀ L h' m → NsObj oC' m₃ → News h₀ L h' ((C, oC') :: rest) → Q () { s with heap := h', toks := tk' }) →
      wpAny (model prog w) A (assign target (compEnvC scope cl C env) v) Q E { s with heap := h, toks := tk })
    (body : ∀ i C D oC m₂ ys led own h tk (K₁ : Shared → Prop) (E' : Value → Shared → Prop), i < n → J i ys led → TG i m₂ → NsObj oC m₂ → Fr h₀ L h m → News h₀ L h ((C, oC) :: (D, lst ys) :: (own ++ (led ++ news))) → (∀ p ∈ led ++ news, p.1 ≠ C ∧ p.1 ≠ D ∧ p.1 ∉ wr) → (∀ p ∈ own, p.1 ≠ D) → C ≠ D → (∀ b ∈ wr, b < D) →
      (∀ s', TurnEnd h₀ L m s C D wr own (fun _ ys led => ∃ led', led = led' ++ news ∧ J (i + 1) ys led') s' → K₁ s') → W C D K₁ E' { s with heap := h, toks := tk })
    (fin : ∀ D C ys led h tk oC m₂, J n ys led → NsObj oC m₂ → Fr h₀ L h m → News h₀ L h ((C, oC) :: (D, lst ys) :: (led ++ news)) → D ≠ C → (∀ p ∈ led ++ news, p.1 ≠ C) → (∀ p ∈ news, p.1 < D) → (∀ p ∈ led ++ news, p.1 ≠ D) → RR (.ref D) C (.ok .next) { s with heap := h, toks := tk }) :
    wpAny (model prog w) A (newList []) (fun acc s₃ => wpAny (model prog w) A (newFunctionEnv scope env.globals cl [] env.qual none .none (some env)) (fun cenv s₄ =>
      codeAny (model prog w) A (.compStart (.ListComp elt [⟨target, iter, ifs, 0⟩] scope pos) 0 (.ref I) acc { cenv with scope := relabel scope env }) (RR acc cenv.locals) s₄) E s₃) E s := by
  refine comp_at F N hcell hkind hself ?_
  intro D C oC h tk hD hC hoC F₁ N₁ k₁
  replace hD := eqN hD
  replace hC := eqN hC
  have hlt : ∀ q ∈ news, q.1 < s.heap.objs.size := fun q hq => Heap.lt_size (N q hq).1
  have hCf : C ∉ fp := fun hb => by have := ltN (hfp _ hb); omega
  have hDf : D ∉ fp := fun hb => by have := ltN (hfp _ hb); omega
  have hCD : C ≠ D := by refine neN ?_; omega
  refine comp_loop (s := s) (d := 0) KT (TI C D) rfl rfl (hU D C) hLf hwr hCf hDf (fun i _ ys led => ∃ led', led = led' ++ news ∧ J i ys led') ?_ ?_ n 0 [] news h tk oC _ (by omega) (KT.frame _ _ _ hst fun b hb o e => k₁ b o e) ⟨[], rfl, h0⟩ hoC F₁ N₁ (fun q hq => ⟨by have := ltN (hlt q hq); refine neN ?_; omega, by have := ltN (hlt q hq); refine neN ?_; omega, hoff q hq⟩)
  · rintro i v ys led h₂ tk₂ oC₂ m₂ own K₁ E' hi hv ⟨led', rfl, hJ⟩ hown hC₂ F₂ N₂ off K₂
    have hownD : ∀ p ∈ own, p.1 ≠ D := fun p hp => by have := ltN (hfp _ (hown p hp)); refine neN ?_; omega
    refine tgt i v h₂ tk₂ oC₂ m₂ C _ _ _ hi hv hC₂ F₂ N₂ (fun q hq => List.mem_cons_of_mem _ (List.mem_append_right _ (List.mem_append_right _ hq))) (fun q hq => ?_) (fun h₃ oC₃ tk₃ m₃ hTG F₃ hC₃ N₃ => ?_)
    · rcases List.mem_cons.mp hq with rfl | hq
      · exact hCD.symm
      · rcases List.mem_append.mp hq with hq | hq
        · have := ltN (hfp _ (hown q hq)); refine neN ?_; omega
        · exact (off q hq).1
    · exact body i C D oC₃ m₃ ys led' own h₃ tk₃ K₁ E' hi hJ hTG hC₃ F₃ N₃ off hownD hCD (fun b hb => by have := ltN (hfp b (KT.sub b hb)); refine ltN ?_; omega) K₂
  · rintro ys led h₂ tk₂ oC₂ m₂ ⟨led', rfl, hJ⟩ hC₂ F₂ N₂ off
    exact fin D C ys led' h₂ tk₂ oC₂ m₂ hJ hC₂ F₂ N₂ hCD.symm (fun q hq => (off q hq).1) (fun q hq => by have := ltN (hlt q hq); refine ltN ?_; omega) (fun q hq => (off q hq).2.1)
end
end Mine
end
section
open PySem PySem.W PyProof.Rows PySem.Spec PySem.Calls
open PyProof.Rows.LCg (lst NsObj ns_obj lst_snoc)
set_option maxRecDepth 100000
namespace Mine
section
variable {prog : Program} {w : World} {A : Around} {E : Value → Shared → Prop} {s : Shared} {h₀ : Heap} {L : Addr} {m : Str → Option Value} {env : Env} {scope : Scope} {cl : List (Str × Addr)} {news : List (Addr × Obj)} {elt iter : Expr} {pos : Pos}
/-- what an element's evaluation owes -/
def EltDoes (prog : Program) (w : World) (A : Around) (h₀ : Heap) (L : Addr) (m : Str → Option Value) (env : Env) (scope : Scope) (cl : List (Str × Addr)) (news : List (Addr × Obj)) (elt : Expr) (TG : Nat → (Str → Option Value) → Prop) (n : Nat) (J : Nat → List Value → List (Addr × Obj) → Prop) : Prop :=
  ∀ i C oC m₂ ys led rest (s' : Shared) (Q' E' : Value → Shared → Prop), i < n → J i ys led → NsObj oC m₂ → TG i m₂ → Fr h₀ L s'.heap m → News h₀ L s'.heap ((C, oC) :: rest) → (∀ q ∈ led ++ news, q ∈ rest) →
    (∀ y led₂ h' tk', Fr h₀ L h' m → News h₀ L h' (led₂ ++ (C, oC) :: rest) → (∀ q ∈ (C, oC) :: rest, ∀ z ∈ led₂, q.1 < z.1) → J (i + 1) (ys ++ [y]) (led₂ ++ led) → Q' y { s' with heap := h', toks := tk' }) →
    wpAny (model prog w) A (eval elt (compEnvC scope cl C env)) Q' E' s'
theorem elt_body {TG : Nat → (Str → Option Value) → Prop} {n : Nat} {J : Nat → List Value → List (Addr × Obj) → Prop} (he : EltDoes prog w A h₀ L m env scope cl news elt TG n J) (hJz : ∀ i ys led, J i ys led → i < n → ys.length ≤ sizeLine) {wr : List Addr} :
    ∀ i C D oC m₂ ys led own h tk (K₁ : Shared → Prop) (E' : Value → Shared → Prop), i < n → J i ys led → TG i m₂ → NsObj oC m₂ → Fr h₀ L h m → News h₀ L h ((C, oC) :: (D, lst ys) :: (own ++ (led ++ news))) → (∀ p ∈ led ++ news, p.1 ≠ C ∧ p.1 ≠ D ∧ p.1 ∉ wr) → (∀ p ∈ own, p.1 ≠ D) → C ≠ D → (∀ b ∈ wr, b < D) →
      (∀ s', TurnEnd h₀ L m s C D wr own (fun _ ys led => ∃ led', led = led' ++ news ∧ J (i + 1) ys led') s' → K₁ s') → WElt prog w A elt (compEnvC scope cl C env) D K₁ E' { s with heap := h, toks := tk } := by
  intro i C D oC m₂ ys led own h tk K₁ E' hi hJ hTG hC F N off hown hCD hwr K
  refine he i C oC m₂ ys led _ _ _ _ hi hJ hC hTG F N (fun q hq => List.mem_cons_of_mem _ (List.mem_append_right _ hq)) ?_
  intro y led₂ h' tk' F' N' hord hJ'
  exact elt_end F' N' hC hord off hown hCD hwr (hJz _ _ _ hJ hi) ⟨led₂ ++ led, by rw [List.append_assoc], hJ'⟩ K
theorem comp_enum {x y : Str} {px py tp : Pos} {tk n : Nat} {xa : Addr} {us : List Value} {RR : Value → Addr → Result → Shared → Prop} (J : Nat → List Value → List (Addr × Obj) → Prop)
    (hh : A.handled = none) (hx : scope.names.lookup x = some .local) (hy : scope.names.lookup y = some .local) (hxy : x ≠ y) (hcell : ∀ y ∈ scope.names, y.2 ≠ .cell) (hkind : scope.kind = .function)
    (F : Fr h₀ L s.heap m) (N : News h₀ L s.heap news) (hm : (xa, listOf us.toArray n) ∈ news) (hJz : ∀ i ys led, J i ys led → i < us.length → ys.length ≤ sizeLine) (h0 : J 0 [] [])
    (hU : ∀ I D C, A.under (.compLoop (.ListComp elt [⟨.Tuple [.Name x px, .Name y py] tk tp, iter, [], 0⟩] scope pos) 0 (.ref I) (.ref D) (compEnvC scope cl C env)) = A)
    (he : EltDoes prog w A h₀ L m env scope cl news elt (fun i m₂ => ∃ t u, m₂ x = some (.int i t) ∧ m₂ y = some u ∧ us[i]? = some u) us.length J)
    (fin : ∀ D C ys led h tk oC m₂, J us.length ys led → NsObj oC m₂ → Fr h₀ L h m → News h₀ L h ((C, oC) :: (D, lst ys) :: (led ++ news)) → D ≠ C → (∀ p ∈ led ++ news, p.1 ≠ C) → (∀ p ∈ news, p.1 < D) → (∀ p ∈ led ++ news, p.1 ≠ D) → RR (.ref D) C (.ok .next) { s with heap := h, toks := tk }) :
    wpAny (model prog w) A (call (.type "enumerate") [.ref xa]) (fun xv s₁ => wpAny (model prog w) A (pyIter xv) (fun it s₂ => wpAny (model prog w) A (newList []) (fun acc s₃ => wpAny (model prog w) A (newFunctionEnv scope env.globals cl [] env.qual none .none (some env)) (fun cenv s₄ =>
      codeAny (model prog w) A (.compStart (.ListComp elt [⟨.Tuple [.Name x px, .Name y py] tk tp, iter, [], 0⟩] scope pos) 0 it acc { cenv with scope := relabel scope env }) (RR acc cenv.locals) s₄) E s₃) E s₂) E s₁) E s := by
  have hax := N _ hm
  have hl : s.heap.IsList xa us.toArray := News.isList N hm
  have hlt : xa < s.heap.objs.size := Heap.lt_size hax.1
  have hlt' := ltN hlt
  have hLs : L < s.heap.objs.size := F.ns.lt
  have hLs' := ltN hLs
  refine call_enumerate_list hl fun h' hE hI hsz hk => ?_
  refine wpAny_pyIter_enum hE ?_
  have hsz' : h'.objs.size = s.heap.objs.size + 2 := hsz
  have KT := KTurns.ofWalksU (elts := [.Name x px, .Name y py]) (k := tk) (pos := tp) (WalksT.enumerate (prog := prog) (w := w) hh (s.heap.objs.size + 1) s.heap.objs.size xa (Nat.succ_ne_self _) (ktu_ne 1 hlt) (Nat.ne_of_lt hlt) us.toArray).toU
  have hn : us.toArray.size = us.length := by simp
  rw [hn] at KT
  refine comp_run (s := { s with heap := h' }) (fun C D => WElt prog w A elt (compEnvC scope cl C env) D) (fun i m₂ => ∃ t u, m₂ x = some (.int i t) ∧ m₂ y = some u ∧ us[i]? = some u) J KT (fun C D => turn_plain) (F.keeps hk) (N.grown hk) hcell hkind ?_ (fun D C => hU _ D C) ⟨⟨_, hE⟩, hI, hl.at fun o e => hk _ o e⟩ ?_ ?_ ?_ ?_ h0 ?_ (elt_body he hJz) fin
  · intro s' Q' E' k q
    exact wpAny_pyIter_enum (k _ _ hE) q
  · intro hb
    simp only [List.mem_cons, List.not_mem_nil, or_false] at hb
    rcases hb with e | e | e
    · replace e := eqN e; omega
    · replace e := eqN e; omega
    · exact hax.2.1 e.symm
  · intro b hb
    simp only [List.mem_cons, List.not_mem_nil, or_false] at hb
    rcases hb with rfl | rfl
    · exact ktu_new F (Nat.le_add_right _ _)
    · exact ktu_new F (Nat.le_refl _)
  · intro b hb
    simp only [List.mem_cons, List.not_mem_nil, or_false] at hb
    show b < h'.objs.size
    rw [hsz]
    rcases hb with rfl | rfl | rfl <;> (refine ltN ?_; omega)
  · intro p hp hb
    have := ltN (Heap.lt_size (N p hp).1)
    simp only [List.mem_cons, List.not_mem_nil, or_false] at hb
    rcases hb with e | e <;> (replace e := eqN e; omega)
  · rintro i v h tk₁ oC m₂ C rest Q E hi ⟨T, vals, rfl, ⟨t, u, hu, rfl⟩, hT⟩ hC F₁ N₁ hs off q
    refine pair_C hh hx hy hkind F₁ N₁ hC off hT (fun h₂ oC₂ tk₂ F₂ hC₂ N₂ => ?_)
    exact q h₂ oC₂ tk₂ _ ⟨t, u, by simp [hxy], by simp, by simpa using hu⟩ F₂ hC₂ N₂
/-- the keys' comprehension, with a test -/
theorem comp_pairs {x y : Str} {px py tp pe : Pos} {tk n : Nat} {xa : Addr} {us : List Value} {dl : List (Addr × Obj)} {keys : List (Int × Int)} {ct : Expr} (p : Int × Int → Bool) {Q : Value → Shared → Prop}
    (hh : A.handled = none) (hx : scope.names.lookup x = some .local) (hy : scope.names.lookup y = some .local) (hxy : x ≠ y) (hxd : (x == ("__debug__" : Str)) = false) (hclos : closureFor scope env = pure cl) (hcell : ∀ y ∈ scope.names, y.2 ≠ .cell) (hkind : scope.kind = .function) (hnames : ∀ x ∈ scope.names, x.2 = .local → scope.names.lookup x.1 = some .local) (hs0 : ∀ z, foldedSetIterable iter env z = pure z)
    (F : Fr h₀ L s.heap m) (N : News h₀ L s.heap news) (hm : (xa, listOf us.toArray n) ∈ news) (hdl : ∀ q ∈ dl, q ∈ news) (hus : DatAll dl us (keys.map keyD)) (hlen : keys.length ≤ 1000)
    (hU : ∀ I D C, A.under (.compLoop (.ListComp (.Name x pe) [⟨.Tuple [.Name x px, .Name y py] tk tp, iter, [ct], 0⟩] scope pos) 0 (.ref I) (.ref D) (compEnvC scope cl C env)) = A)
    (hi : ∀ Q' : Value → Shared → Prop, Q' (.ref xa) s → wpAny (model prog w) A (eval iter env) Q' E s)
    (ht : ∀ k ∈ keys, ∀ t C oC m₂ rest (s' : Shared) (Q' : Bool → Shared → Prop) (E' : Value → Shared → Prop), NsObj oC m₂ → m₂ x = some (.int k.1 t) → News h₀ L s'.heap ((C, oC) :: rest) → (∀ q ∈ news, q ∈ rest) → Q' (p k) s' → wpAny (model prog w) A (isTrue ct (compEnvC scope cl C env) (eval ct (compEnvC scope cl C env))) Q' E' s')
    (fin : ∀ D zs h' tk, Fr h₀ L h' m → News h₀ L h' ((D, lst zs) :: news) → (∀ q ∈ news, q.1 < D) → zs.length = (keys.filter p).length → Q (.ref D) { s with heap := h', toks := tk }) :
    wpAny (model prog w) A (eval (.ListComp (.Name x pe) [⟨.Tuple [.Name x px, .Name y py] tk tp, iter, [ct], 0⟩] scope pos) env) Q E s := by
  refine comp_eval hclos hkind hnames hs0 (hi _ ?_)
  obtain ⟨KT, hLf, hwr, hnw, hl⟩ := list_turns (prog := prog) (w := w) (target := .Tuple [.Name x px, .Name y py] tk tp) hh F N hm
  refine wpAny_pyIter_list hl ?_
  have up : ∀ b o, s.heap.get? b = some o → (s.heap.push { cls := .type "list_iterator", data := .fields #[.ref xa, .int 0 0] }).get? b = some o := fun b o e => Heap.get?_push_of_some _ e
  have hvlt := ltN (Heap.lt_size (N _ hm).1)
  dsimp only at hvlt
  have hn : us.toArray.size = keys.length := by simp [hus.length]
  have hsz : (s.heap.push { cls := .type "list_iterator", data := .fields #[.ref xa, .int 0 0] }).objs.size = s.heap.objs.size + 1 := Heap.size_push _ _
  refine comp_run (s := { s with heap := s.heap.push { cls := .type "list_iterator", data := .fields #[.ref xa, .int 0 0] } }) (fun C D => WTest prog w A ct (.Name x pe) (compEnvC scope cl C env) D) (fun i m₂ => ∃ t k, keys[i]? = some k ∧ m₂ x = some (.int k.1 t)) (fun i ys led => led = [] ∧ ys.length = ((keys.take i).filter p).length) KT (fun C D => turn_test) (F.keeps up) (N.grown up) hcell hkind ?_ (fun D C => hU _ D C) ⟨⟨_, Heap.get?_push_size _ rfl, rfl, rfl⟩, hl.at fun o e => up _ _ e⟩ hLf hwr ?_ hnw ⟨rfl, by simp⟩ ?_ ?_ ?_
  · intro s' Q' E' k q
    exact wpAny_pyIter_listiter (i := 0) (l := xa) ⟨_, k _ _ (Heap.get?_push_size _ rfl), rfl, rfl⟩ q
  · intro b hb
    simp only [List.mem_cons, List.not_mem_nil, or_false] at hb
    show b < (s.heap.push { cls := .type "list_iterator", data := .fields #[.ref xa, .int 0 0] }).objs.size
    rw [hsz]
    rcases hb with rfl | rfl <;> (refine ltN ?_; omega)
  · rintro i v h tk₁ oC m₂ C rest Q E hi hv hC F₁ N₁ hs off q
    have hil : i < (keys.map keyD).length := by rw [List.length_map]; omega
    obtain ⟨v', hv2, hvd⟩ := hus.get hil
    have hv' : us[i]? = some v := by simpa using hv
    obtain rfl : v' = v := Option.some.inj (hv2.symm.trans hv')
    have hik : i < keys.length := by omega
    rw [List.getElem_map] at hvd
    unfold keyD at hvd
    cases hvd with
    | @tuple T vs₁ n₁ _ h1 h2 =>
    cases h2 with
    | cons ha h2 =>
    cases h2 with
    | cons hb h2 =>
    cases h2
    cases ha with
    | int _ t₁ =>
    cases hb with
    | int _ t₂ =>
    have hT : h.IsTuple T #[.int keys[i].1 t₁, .int keys[i].2 t₂] := ⟨_, (N₁ _ (List.mem_cons_of_mem _ (hs _ (hdl _ h1)))).1, rfl, n₁, rfl⟩
    refine pair_C hh hx hy hkind F₁ N₁ hC off hT (fun h₂ oC₂ tk₂ F₂ hC₂ N₂ => ?_)
    exact q h₂ oC₂ tk₂ _ ⟨t₁, keys[i], List.getElem?_eq_getElem hik, by simp [hxy]⟩ F₂ hC₂ N₂
  · rintro i C D oC m₂ ys led own h tk₁ K₁ E' hi ⟨rfl, hys⟩ ⟨t, k, hk, hmx⟩ hC F₁ N₁ off hown hCD hwrD K
    have hfl : (keys.take (i + 1)).filter p = (keys.take i).filter p ++ (if p k then [k] else []) := take_succ_filter _ _ _ _ hk
    refine ht k (List.mem_of_getElem? hk) t C oC m₂ _ _ _ _ hC hmx N₁ (fun q hq => List.mem_cons_of_mem _ (List.mem_append_right _ (List.mem_append_right _ hq))) ?_
    cases hpv : p k with
    | false =>
      simp only [Bool.false_eq_true, if_false]
      refine K _ ⟨h, tk₁, oC, m₂, ys, [] ++ news, rfl, F₁, hC, N₁, off, [], rfl, rfl, ?_⟩
      rw [hfl, hpv]; simpa using hys
    | true =>
      simp only [if_true]
      refine name_C hx hkind N₁ hC hmx ?_ hxd
      refine elt_end (led₂ := []) (led := [] ++ news) (J := fun _ ys led => ∃ led', led = led' ++ news ∧ led' = [] ∧ ys.length = ((keys.take (i + 1)).filter p).length) F₁ N₁ hC (fun _ _ _ h => nomatch h) off hown hCD hwrD ?_ ⟨[], rfl, rfl, ?_⟩ K
      · rw [hys, sizeLine_eq]
        have := List.length_filter_le p (keys.take i)
        rw [List.length_take] at this
        omega
      · rw [hfl, hpv, List.length_append, hys]; simp
  · rintro D C ys led h tk₁ oC m₂ ⟨rfl, hys⟩ hC F₁ N₁ hDC off hlt off2
    refine post_none hC F₁ N₁ hDC off fun h₃ F₃ N₃ => ?_
    refine fin D ys h₃ tk₁ F₃ N₃ hlt ?_
    rw [hys, hn, List.take_length]
theorem comp_range {x : Str} {px : Pos} {r : Addr} {n : Nat} {t u v : Tok} {RR : Value → Addr → Result → Shared → Prop} (J : Nat → List Value → List (Addr × Obj) → Prop)
    (hh : A.handled = none) (hx : scope.names.lookup x = some .local) (hcell : ∀ y ∈ scope.names, y.2 ≠ .cell) (hkind : scope.kind = .function)
    (F : Fr h₀ L s.heap m) (N : News h₀ L s.heap news) (hr : IsRange s.heap r 0 n 1 t u v) (hn : n ≤ 1000) (hJz : ∀ i ys led, J i ys led → i < n → ys.length ≤ sizeLine) (h0 : J 0 [] [])
    (hU : ∀ I D C, A.under (.compLoop (.ListComp elt [⟨.Name x px, iter, [], 0⟩] scope pos) 0 (.ref I) (.ref D) (compEnvC scope cl C env)) = A)
    (he : EltDoes prog w A h₀ L m env scope cl news elt (fun i m₂ => ∃ t, m₂ x = some (.int i t)) n J)
    (fin : ∀ D C ys led h tk oC m₂, J n ys led → NsObj oC m₂ → Fr h₀ L h m → News h₀ L h ((C, oC) :: (D, lst ys) :: (led ++ news)) → D ≠ C → (∀ p ∈ led ++ news, p.1 ≠ C) → (∀ p ∈ news, p.1 < D) → (∀ p ∈ led ++ news, p.1 ≠ D) → RR (.ref D) C (.ok .next) { s with heap := h, toks := tk }) :
    wpAny (model prog w) A (pyIter (.ref r)) (fun it s₂ => wpAny (model prog w) A (newList []) (fun acc s₃ => wpAny (model prog w) A (newFunctionEnv scope env.globals cl [] env.qual none .none (some env)) (fun cenv s₄ =>
      codeAny (model prog w) A (.compStart (.ListComp elt [⟨.Name x px, iter, [], 0⟩] scope pos) 0 it acc { cenv with scope := relabel scope env }) (RR acc cenv.locals) s₄) E s₃) E s₂) E s := by
  have hsm : Builtin.Range.small 0 n 1 = true := small_one (by omega) (by omega) (by omega) (by omega)
  refine wpAny_pyIter_range hr hsm ?_
  rw [show Builtin.Range.rangeSize 0 n 1 = n from rangeSize_nat _ _]
  have up : ∀ b o, s.heap.get? b = some o → (s.heap.push { cls := .type "range_iterator", data := .fields #[rawInt 0, rawInt n, rawInt 1] }).get? b = some o := fun b o e => Heap.get?_push_of_some _ e
  have hsz : (s.heap.push { cls := .type "range_iterator", data := .fields #[rawInt 0, rawInt n, rawInt 1] }).objs.size = s.heap.objs.size + 1 := Heap.size_push _ _
  have KT := KTurns.ofWalks (target := .Name x px) (Walks.range (prog := prog) (w := w) hh s.heap.objs.size 0 1 n) (fun i v s Q E st q => wpAny_pure q)
  refine comp_run (s := { s with heap := s.heap.push { cls := .type "range_iterator", data := .fields #[rawInt 0, rawInt n, rawInt 1] } }) (fun C D => WElt prog w A elt (compEnvC scope cl C env) D) (fun i m₂ => ∃ t, m₂ x = some (.int i t)) J KT (fun C D => turn_plain) (F.keeps up) (N.grown up) hcell hkind ?_ (fun D C => hU _ D C) ?_ ?_ ?_ ?_ ?_ h0 ?_ (elt_body he hJz) fin
  · intro s' Q' E' k q
    exact wpAny_pyIter_rangeiter (k _ _ (Heap.get?_push_size _ rfl)) q
  · show (s.heap.push _).get? _ = some _
    rw [Heap.get?_push_size _ rfl]
    simp
  · intro hb
    rw [List.mem_singleton] at hb
    exact absurd F.ns.lt (hb ▸ Nat.lt_irrefl _)
  · intro b hb
    rw [List.mem_singleton.mp hb]; exact next_is_new F
  · intro b hb
    show b < (s.heap.push { cls := .type "range_iterator", data := .fields #[rawInt 0, rawInt n, rawInt 1] }).objs.size
    rw [hsz, List.mem_singleton.mp hb]; exact Nat.lt_succ_self _
  · intro p hp hb
    exact absurd (Heap.lt_size (N p hp).1) ((List.mem_singleton.mp hb) ▸ Nat.lt_irrefl _)
  · rintro i v h tk₁ oC m₂ C rest Q E hi ⟨t₁, rfl⟩ hC F₁ N₁ hs off q
    refine wpAny_assign_Name (store_C hx hkind F₁ N₁ hC off fun h₃ oC₃ F₃ hC₃ N₃ => ?_)
    exact q h₃ oC₃ _ _ ⟨t₁, by simp⟩ F₃ hC₃ N₃
end
end Mine
end
section
open PySem PySem.W
set_option maxRecDepth 100000
namespace Mine
def posD (r : Dat) : Int := match cellD r 3 with | .int k => k | _ => 0
def RowsOk (b : Bool) (rows : List Dat) : Prop := rows ≠ [] ∧ rows.length ≤ 24 ∧ (∀ r ∈ rows, RowK b r) ∧ rows.Pairwise (fun a b => posD a < posD b)
/-- the columns, one key after another -/
def ColsOut : List (Int × Int) → List Dat → List Dat → Prop
  | [], rows, out => out = rows
  | k :: ks, rows, out => ∃ mid, ColOut k rows mid ∧ ColsOut ks mid out
theorem filter_two {α : Type} (p : α → Bool) : ∀ l : List α, (l.filter p ++ l.filter fun x => !p x).Perm l
  | [] => .nil
  | a :: l => by
    cases h : p a with
    | true => simp only [List.filter_cons, h, if_true, Bool.not_true, Bool.false_eq_true, if_false, List.cons_append]; exact (filter_two p l).cons a
    | false =>
      simp only [List.filter_cons, h, Bool.false_eq_true, if_false, Bool.not_false, if_true]
      exact (List.perm_middle).trans ((filter_two p l).cons a)
theorem flat_congr {α β : Type} {f g : α → List β} : ∀ (l : List α), (∀ a ∈ l, f a = g a) → l.flatMap f = l.flatMap g
  | [], _ => rfl
  | a :: l, h => by rw [List.flatMap_cons, List.flatMap_cons, h a List.mem_cons_self, flat_congr l fun x hx => h x (List.mem_cons_of_mem _ hx)]
open Classical in
theorem bins_perm {α β : Type} (f : α → β) : ∀ (L : List β) (rows : List α), L.Nodup → (∀ r ∈ rows, f r ∈ L) → (L.flatMap fun d => rows.filter fun r => decide (f r = d)).Perm rows
  | [], rows, _, h => by
    cases rows with
    | nil => exact .nil
    | cons r rs => exact absurd (h r List.mem_cons_self) (by simp)
  | a :: L, rows, hn, h => by
    obtain ⟨ha, hL⟩ := List.nodup_cons.mp hn
    rw [List.flatMap_cons]
    have e : (L.flatMap fun d => rows.filter fun r => decide (f r = d)) = (L.flatMap fun d => (rows.filter fun r => !decide (f r = a)).filter fun r => decide (f r = d)) := by
      refine flat_congr _ fun d hd => ?_
      rw [List.filter_filter]
      refine List.filter_congr fun r hr => ?_
      by_cases hrd : f r = d
      · have : f r ≠ a := fun x => ha (by rw [← x, hrd]; exact hd)
        simp [hrd, this]
        intro x; exact this (hrd.trans x)
      · simp [hrd]
    rw [e]
    refine ((bins_perm f L _ hL fun r hr => ?_).append_left _).trans (filter_two _ rows)
    obtain ⟨h1, h2⟩ := List.mem_filter.mp hr
    rcases List.mem_cons.mp (h r h1) with x | x
    · simp [x] at h2
    · exact x
theorem dirD_perm (d : Int) (es : List Dat) : (dirD d es).Perm es := by
  unfold dirD
  split
  · exact .refl _
  · exact List.reverse_perm _
theorem colOut_perm {k : Int × Int} {rows out : List Dat} (h : ColOut k rows out) : out.Perm rows := by
  classical
  obtain ⟨es, hp, ho, rfl⟩ := h
  have hp' := (dirD_perm k.2 es).trans hp
  refine bins_perm (fun r => cellD r k.1) _ _ ?_ fun r hr => ?_
  · exact hp'.nodup_iff.mpr (valuesD_nodup _ _ _ List.nodup_nil)
  · exact hp'.mem_iff.mpr ((valuesD_mem _ _ _ _).mpr (.inr ⟨r, hr, rfl⟩))
theorem colsOut_perm : ∀ {ks : List (Int × Int)} {rows out : List Dat}, ColsOut ks rows out → out.Perm rows
  | [], _, _, h => by rw [show _ = _ from h]
  | k :: ks, _, _, ⟨mid, h1, h2⟩ => (colsOut_perm h2).trans (colOut_perm h1)
theorem cmp_vals {keys : List (Int × Int)} {l r : Dat} (hk : ∀ k ∈ keys, KeyOk k) : cmpD keys l r = -1 ∨ cmpD keys l r = 0 ∨ cmpD keys l r = 1 := by
  induction keys with
  | nil => exact .inr (.inl rfl)
  | cons k ks ih =>
    have h1 := (hk k List.mem_cons_self).2
    have h2 := ih fun k hk' => hk k (List.mem_cons_of_mem _ hk')
    obtain ⟨i, d⟩ := k
    rw [cmpD]
    simp only at h1
    split
    · omega
    · split
      · omega
      · exact h2
theorem cmp_anti {b : Bool} {keys : List (Int × Int)} {l r : Dat} (hl : RowK b l) (hr : RowK b r) (hk : ∀ k ∈ keys, KeyOk k) : cmpD keys r l = -cmpD keys l r := by
  induction keys with
  | nil => rfl
  | cons k ks ih =>
    have h2 := ih fun k hk' => hk k (List.mem_cons_of_mem _ hk')
    have c1 := row_kind hl (hk k List.mem_cons_self)
    have c2 := row_kind hr (hk k List.mem_cons_self)
    obtain ⟨i, d⟩ := k
    rw [cmpD, cmpD]
    by_cases ha : cellLt (cellD l i) (cellD r i) = true
    · have hb : ¬ cellLt (cellD r i) (cellD l i) = true := fun hb => by have := c1.asym c2 ha; simp only at this; rw [hb] at this; cases this
      rw [if_neg hb, if_pos ha, if_pos ha]; omega
    · by_cases hb : cellLt (cellD r i) (cellD l i) = true
      · rw [if_pos hb, if_neg ha, if_pos hb]
      · rw [if_neg hb, if_neg ha, if_neg ha, if_neg hb]; exact h2
open Classical in
theorem alike_iff {b : Bool} {keys : List (Int × Int)} {l r : Dat} (hl : RowK b l) (hr : RowK b r) (hk : ∀ k ∈ keys, KeyOk k) : (keys.filter fun k => !decide (cellD l k.1 = cellD r k.1)).length = 0 ↔ cmpD keys l r = 0 := by
  induction keys with
  | nil => simp [cmpD]
  | cons k ks ih =>
    have h2 := ih fun k hk' => hk k (List.mem_cons_of_mem _ hk')
    have hko := hk k List.mem_cons_self
    have c1 := row_kind hl hko
    have c2 := row_kind hr hko
    have hd := hko.2
    obtain ⟨i, d⟩ := k
    simp only at c1 c2 hd
    rw [cmpD]
    by_cases he : cellD l i = cellD r i
    · have i1 := c2.irr
      rw [List.filter_cons]
      simp only [he, decide_true, Bool.not_true, Bool.false_eq_true, if_false, i1]
      exact h2
    · rw [List.filter_cons]
      simp only [he, decide_false, Bool.not_false, if_true, List.length_cons]
      constructor
      · intro x; omega
      · intro x
        exfalso
        by_cases ha : cellLt (cellD l i) (cellD r i) = true
        · rw [if_pos ha] at x; omega
        · have hb := c1.tri c2 he (Bool.eq_false_iff.mpr ha)
          rw [if_neg ha, if_pos hb] at x; omega
open Classical in
theorem alike_eq {b : Bool} {keys : List (Int × Int)} {l r : Dat} (hl : RowK b l) (hr : RowK b r) (hk : ∀ k ∈ keys, KeyOk k) {n : Nat} (hn : n = (keys.filter fun k => !decide (cellD l k.1 = cellD r k.1)).length) : ((n : Int) == 0) = decide (cmpD keys l r = 0) := by
  have h := alike_iff hl hr hk
  rw [← hn] at h
  by_cases hz : cmpD keys l r = 0
  · rw [decide_eq_true hz, h.mpr hz]; rfl
  · rw [decide_eq_false hz]
    have : n ≠ 0 := fun x => hz (h.mp x)
    simpa using this
theorem cell_three {κ : Kind} {p q : Dat} (hp : CellOf κ p) (hq : CellOf κ q) : (cellLt p q = true ∧ cellLt q p = false) ∨ (cellLt q p = true ∧ cellLt p q = false) ∨ p = q := by
  classical
  by_cases e : p = q
  · exact .inr (.inr e)
  · cases h : cellLt p q with
    | true => exact .inl ⟨rfl, hp.asym hq h⟩
    | false => exact .inr (.inl ⟨hp.tri hq e h, rfl⟩)
/-- the rows' order: by the keys, then by the place -/
def RowR (keys : List (Int × Int)) (a b : Dat) : Prop := cmpD keys a b < 0 ∨ (cmpD keys a b = 0 ∧ posD a < posD b)
theorem cmp_trans {b : Bool} {keys : List (Int × Int)} {x y z : Dat} (hx : RowK b x) (hy : RowK b y) (hz : RowK b z) (hk : ∀ k ∈ keys, KeyOk k) (h1 : cmpD keys x y ≤ 0) (h2 : cmpD keys y z ≤ 0) : cmpD keys x z ≤ 0 ∧ (cmpD keys x z = 0 → cmpD keys x y = 0 ∧ cmpD keys y z = 0) := by
  induction keys with
  | nil => exact ⟨Int.le_refl _, fun _ => ⟨rfl, rfl⟩⟩
  | cons k ks ih =>
    have hko := hk k List.mem_cons_self
    have c1 := row_kind hx hko
    have c2 := row_kind hy hko
    have c3 := row_kind hz hko
    have hd := hko.2
    have ih' := ih fun k hk' => hk k (List.mem_cons_of_mem _ hk')
    obtain ⟨i, d⟩ := k
    simp only at c1 c2 c3 hd
    simp only [cmpD] at h1 h2 ⊢
    have t12 := cell_three c1 c2
    have t23 := cell_three c2 c3
    rcases t12 with ⟨a1, a2⟩ | ⟨a1, a2⟩ | e12
    · rcases t23 with ⟨b1, b2⟩ | ⟨b1, b2⟩ | e23
      · have c := c1.trans c2 c3 a1 b1
        simp only [a1, b1, c, if_true] at h1 h2 ⊢
        exact ⟨h1, fun x => ⟨x, x⟩⟩
      · simp only [a1, b1, b2, if_true, Bool.false_eq_true, if_false] at h1 h2
        omega
      · rw [← e23] at h2 ⊢
        simp only [a1, if_true] at h1 ⊢
        exact ⟨h1, fun x => by omega⟩
    · rcases t23 with ⟨b1, b2⟩ | ⟨b1, b2⟩ | e23
      · simp only [a1, a2, b1, if_true, Bool.false_eq_true, if_false] at h1 h2
        omega
      · have c := c3.trans c2 c1 b1 a1
        have c' := c3.asym c1 c
        simp only [a1, a2, b1, b2, c, c', if_true, Bool.false_eq_true, if_false] at h1 h2 ⊢
        exact ⟨h1, fun x => ⟨x, x⟩⟩
      · rw [← e23] at h2 ⊢
        simp only [a1, a2, if_true, Bool.false_eq_true, if_false] at h1 ⊢
        exact ⟨h1, fun x => by omega⟩
    · have i2 := c2.irr
      rw [e12] at h1 ⊢
      simp only [i2, Bool.false_eq_true, if_false] at h1 ⊢
      rcases t23 with ⟨b1, b2⟩ | ⟨b1, b2⟩ | e23
      · simp only [b1, if_true] at h2 ⊢
        exact ⟨h2, fun x => by omega⟩
      · simp only [b1, b2, if_true, Bool.false_eq_true, if_false] at h2 ⊢
        exact ⟨h2, fun x => by omega⟩
      · rw [← e23] at h2 ⊢
        simp only [i2, Bool.false_eq_true, if_false] at h2 ⊢
        exact ih' h1 h2
theorem rowR_trans {b : Bool} {keys : List (Int × Int)} {x y z : Dat} (hx : RowK b x) (hy : RowK b y) (hz : RowK b z) (hk : ∀ k ∈ keys, KeyOk k) (h1 : RowR keys x y) (h2 : RowR keys y z) : RowR keys x z := by
  have l1 : cmpD keys x y ≤ 0 := by rcases h1 with h | h <;> omega
  have l2 : cmpD keys y z ≤ 0 := by rcases h2 with h | h <;> omega
  obtain ⟨t1, t2⟩ := cmp_trans hx hy hz hk l1 l2
  by_cases e : cmpD keys x z = 0
  · obtain ⟨e1, e2⟩ := t2 e
    refine .inr ⟨e, ?_⟩
    rcases h1 with h | ⟨_, h⟩
    · omega
    · rcases h2 with h' | ⟨_, h'⟩
      · omega
      · omega
  · exact .inl (by omega)
theorem rowR_asym {b : Bool} {keys : List (Int × Int)} {x y : Dat} (hx : RowK b x) (hy : RowK b y) (hk : ∀ k ∈ keys, KeyOk k) (h1 : RowR keys x y) (h2 : RowR keys y x) : False := by
  have e := cmp_anti hx hy hk
  rcases h1 with h | ⟨h, p⟩ <;> rcases h2 with h' | ⟨h', p'⟩ <;> omega
end Mine
end
section
open PySem PySem.W
set_option maxRecDepth 100000
namespace Mine
theorem perm_unique {α : Type} {R : α → α → Prop} : ∀ {l l' : List α}, l.Perm l' → l.Pairwise R → l'.Pairwise R → (∀ a ∈ l, ∀ b ∈ l, R a b → R b a → False) → l = l'
  | [], l', h, _, _, _ => (List.nil_perm.mp h).symm
  | a :: t, [], h, _, _, _ => absurd h.symm (by intro x; have := x.length_eq; simp at this)
  | a :: t, b :: t', h, p, p', hA => by
    obtain ⟨p1, p2⟩ := List.pairwise_cons.mp p
    obtain ⟨q1, q2⟩ := List.pairwise_cons.mp p'
    have e : a = b := by
      classical
      by_cases e : a = b
      · exact e
      · have ha : a ∈ t' := (List.mem_cons.mp (h.mem_iff.mp List.mem_cons_self)).resolve_left e
        have hb : b ∈ t := (List.mem_cons.mp (h.mem_iff.mpr List.mem_cons_self)).resolve_left fun x => e x.symm
        exact (hA a List.mem_cons_self b (List.mem_cons_of_mem _ hb) (p1 b hb) (q1 a ha)).elim
    subst e
    rw [perm_unique h.cons_inv p2 q2 fun x hx y hy => hA x (List.mem_cons_of_mem _ hx) y (List.mem_cons_of_mem _ hy)]
theorem merge_perm (keys : List (Int × Int)) : ∀ (l r : List Dat), (mergeD keys l r).Perm (l ++ r)
  | [], r => by simp [mergeD]
  | a :: l, [] => by simp [mergeD]
  | a :: l, b :: r => by
    rw [mergeD]
    split
    · exact ((merge_perm keys (a :: l) r).cons b).trans (List.perm_middle.symm)
    · exact (merge_perm keys l (b :: r)).cons a
  termination_by l r => l.length + r.length
theorem merge_pw {b : Bool} {keys : List (Int × Int)} (hk : ∀ k ∈ keys, KeyOk k) : ∀ (l r : List Dat), (∀ x ∈ l, RowK b x) → (∀ x ∈ r, RowK b x) → l.Pairwise (RowR keys) → r.Pairwise (RowR keys) → (∀ x ∈ l, ∀ y ∈ r, posD x < posD y) → (mergeD keys l r).Pairwise (RowR keys)
  | [], r, _, _, _, h, _ => by simpa [mergeD] using h
  | a :: l, [], _, _, h, _, _ => by rw [mergeD]; exact h
  | a :: l, c :: r, kl, kr, hl, hr, hp => by
    obtain ⟨l1, l2⟩ := List.pairwise_cons.mp hl
    obtain ⟨r1, r2⟩ := List.pairwise_cons.mp hr
    have ka := kl a List.mem_cons_self
    have kc := kr c List.mem_cons_self
    have hanti := cmp_anti ka kc hk
    rw [mergeD]
    split
    · rename_i hgt
      refine List.pairwise_cons.mpr ⟨fun x hx => ?_, merge_pw hk (a :: l) r kl (fun x hx => kr x (List.mem_cons_of_mem _ hx)) hl r2 fun x hx y hy => hp x hx y (List.mem_cons_of_mem _ hy)⟩
      have hca : RowR keys c a := .inl (by omega)
      rcases List.mem_append.mp ((merge_perm keys (a :: l) r).mem_iff.mp hx) with hx | hx
      · rcases List.mem_cons.mp hx with rfl | hx
        · exact hca
        · exact rowR_trans kc ka (kl x (List.mem_cons_of_mem _ hx)) hk hca (l1 x hx)
      · exact r1 x hx
    · rename_i hgt
      refine List.pairwise_cons.mpr ⟨fun x hx => ?_, merge_pw hk l (c :: r) (fun x hx => kl x (List.mem_cons_of_mem _ hx)) kr l2 hr fun x hx y hy => hp x (List.mem_cons_of_mem _ hx) y hy⟩
      have hac : RowR keys a c := by
        by_cases e : cmpD keys a c = 0
        · exact .inr ⟨e, hp a List.mem_cons_self c List.mem_cons_self⟩
        · exact .inl (by omega)
      rcases List.mem_append.mp ((merge_perm keys l (c :: r)).mem_iff.mp hx) with hx | hx
      · exact l1 x hx
      · rcases List.mem_cons.mp hx with rfl | hx
        · exact hac
        · exact rowR_trans ka kc (kr x (List.mem_cons_of_mem _ hx)) hk hac (r1 x hx)
  termination_by l r => l.length + r.length
theorem sort_perm (keys : List (Int × Int)) : ∀ (f : Nat) (l : List Dat), (sortF keys f l).Perm l
  | 0, l => .refl _
  | f + 1, l => by
    rw [sortF]
    split
    · exact .refl _
    · refine (merge_perm _ _ _).trans ?_
      refine ((sort_perm keys f _).append (sort_perm keys f _)).trans ?_
      rw [List.take_append_drop]
theorem sort_pw {b : Bool} {keys : List (Int × Int)} (hk : ∀ k ∈ keys, KeyOk k) : ∀ (f : Nat) (l : List Dat), l.length ≤ f + 1 → (∀ x ∈ l, RowK b x) → l.Pairwise (fun a b => posD a < posD b) → (sortF keys f l).Pairwise (RowR keys)
  | 0, l, hl, _, _ => by
    rw [sortF]
    match l, hl with
    | [], _ => exact .nil
    | [x], _ => exact List.pairwise_singleton _ _
  | f + 1, l, hl, kl, hp => by
    rw [sortF]
    split
    · rename_i h2
      match l, h2 with
      | [], _ => exact .nil
      | [x], _ => exact List.pairwise_singleton _ _
    · rename_i h2
      have hap := hp
      rw [← List.take_append_drop (l.length / 2) l, List.pairwise_append] at hap
      refine merge_pw hk _ _ (fun x hx => kl x (List.mem_of_mem_take (sortF_mem _ _ _ _ hx))) (fun x hx => kl x (List.mem_of_mem_drop (sortF_mem _ _ _ _ hx))) ?_ ?_ ?_
      · exact sort_pw hk f _ (by rw [List.length_take]; omega) (fun x hx => kl x (List.mem_of_mem_take hx)) hap.1
      · exact sort_pw hk f _ (by rw [List.length_drop]; omega) (fun x hx => kl x (List.mem_of_mem_drop hx)) hap.2.1
      · exact fun x hx y hy => hap.2.2 x (sortF_mem _ _ _ _ hx) y (sortF_mem _ _ _ _ hy)
theorem col_pw {b : Bool} {k : Int × Int} {ks : List (Int × Int)} {rows out : List Dat} (hko : KeyOk k) (hr : ∀ x ∈ rows, RowK b x) (hp : rows.Pairwise (RowR ks)) (h : ColOut k rows out) : out.Pairwise (RowR (k :: ks)) := by
  classical
  obtain ⟨es, hpe, ho, rfl⟩ := h
  have hd := hko.2
  obtain ⟨i, d⟩ := k
  simp only at hd hpe ⊢
  have hck : ∀ x ∈ rows, CellOf (kindOf b i) (cellD x i) := fun x hx => row_kind (hr x hx) hko
  rw [List.pairwise_flatMap]
  constructor
  · intro e he
    refine List.Pairwise.imp_of_mem ?_ (List.Pairwise.filter _ hp)
    intro x y hx hy hxy
    obtain ⟨x1, x2⟩ := List.mem_filter.mp hx
    obtain ⟨y1, y2⟩ := List.mem_filter.mp hy
    have ex : cellD x i = e := by simpa using x2
    have ey : cellD y i = e := by simpa using y2
    have irr := (hck x x1).irr
    rw [ex] at irr
    have : cmpD ((i, d) :: ks) x y = cmpD ks x y := by simp only [cmpD, ex, ey, irr, Bool.false_eq_true, if_false]
    unfold RowR at hxy ⊢
    rw [this]; exact hxy
  · have key : ∀ e₁ e₂, (d = 1 ∧ cellLt e₁ e₂ = true ∨ d = -1 ∧ cellLt e₂ e₁ = true) → ∀ x ∈ rows.filter (fun r => decide (cellD r i = e₁)), ∀ y ∈ rows.filter (fun r => decide (cellD r i = e₂)), RowR ((i, d) :: ks) x y := by
      intro e₁ e₂ hc x hx y hy
      obtain ⟨x1, x2⟩ := List.mem_filter.mp hx
      obtain ⟨y1, y2⟩ := List.mem_filter.mp hy
      have ex : cellD x i = e₁ := by simpa using x2
      have ey : cellD y i = e₂ := by simpa using y2
      have cx := hck x x1
      have cy := hck y y1
      rw [ex] at cx
      rw [ey] at cy
      refine .inl ?_
      rcases hc with ⟨rfl, h1⟩ | ⟨rfl, h1⟩
      · simp only [cmpD, ex, ey, h1, if_true]; decide
      · have h2 := cy.asym cx h1
        simp only [cmpD, ex, ey, h1, h2, if_true, Bool.false_eq_true, if_false]; decide
    unfold dirD
    rcases hd with rfl | rfl
    · rw [if_pos rfl]
      exact ho.imp fun {e₁ e₂} h1 => key e₁ e₂ (.inl ⟨rfl, h1⟩)
    · rw [if_neg (by decide), List.pairwise_reverse]
      exact ho.imp fun {e₁ e₂} h1 => key e₂ e₁ (.inr ⟨rfl, h1⟩)
theorem cols_pw {b : Bool} : ∀ (kr ks : List (Int × Int)) (rows out : List Dat), (∀ k ∈ kr, KeyOk k) → (∀ x ∈ rows, RowK b x) → rows.Pairwise (RowR ks) → ColsOut kr rows out → out.Pairwise (RowR (kr.reverse ++ ks))
  | [], ks, rows, out, _, _, hp, h => by rw [show out = rows from h]; exact hp
  | k :: kr, ks, rows, out, hk, hr, hp, ⟨mid, h1, h2⟩ => by
    rw [List.reverse_cons, List.append_assoc]
    exact cols_pw kr (k :: ks) mid out (fun k hk' => hk k (List.mem_cons_of_mem _ hk')) (fun x hx => hr x ((colOut_perm h1).mem_iff.mp hx)) (col_pw (hk k List.mem_cons_self) hr hp h1) h2
theorem sort_eq_cols {b : Bool} {keys : List (Int × Int)} {rows due : List Dat} (hr : RowsOk b rows) (hk : ∀ k ∈ keys, KeyOk k) (h : ColsOut keys.reverse rows due) : sortF keys 23 rows = due := by
  obtain ⟨h0, h24, hrk, hp⟩ := hr
  have p1 := sort_pw hk 23 rows h24 hrk hp
  have p2 := cols_pw keys.reverse [] rows due (fun k hk' => hk k (List.mem_reverse.mp hk')) hrk (hp.imp fun {x y} h => .inr ⟨rfl, h⟩) h
  rw [List.reverse_reverse, List.append_nil] at p2
  refine perm_unique ((sort_perm keys 23 rows).trans (colsOut_perm h).symm) p1 p2 fun x hx y hy => ?_
  have hx' := (sort_perm keys 23 rows).mem_iff.mp hx
  have hy' := (sort_perm keys 23 rows).mem_iff.mp hy
  exact rowR_asym (hrk x hx') (hrk y hy') hk
end Mine
end
section
open PySem PySem.W PyProof.Rows PySem.Spec PySem.Calls
set_option maxRecDepth 100000
namespace Mine
/-- what a call of the law's lambda gives -/
def LamIs (prog : Program) (w : World) (p : Program) (loose : List Str) (mean : ExcName → Option Value) (mg mb : Str → Option Value) (b : Bool) (f : Addr) (own : List (Addr × Obj)) : Prop :=
  (∃ oc od fd sl, (f, (⟨oc, od, .func fd, sl⟩ : Obj)) ∈ own) ∧ ∀ (A A₀ : Around) (base h₀ : Heap) (outer : List Env) (env : Env) (L : Addr) (m : Str → Option Value) (news : List (Addr × Obj)) (s : Shared) (v : Int) (tv : Tok) (Q E : Value → Shared → Prop),
    Below A₀ base outer h₀ → Fr h₀ L s.heap m → (hd.heap_39 w.params).In h₀ → News h₀ L s.heap news → Top p loose mean mg mb h₀ → (∀ q ∈ own, q ∈ news) → A.frames = some (env :: outer) → env.frame = some L → env.scope.kind = .function → A.depth + 2 < recursionLimit → A.units + 100 < cLine → A.handled = none →
    (∀ x d led h' tk', Fr h₀ L h' m → News h₀ L h' (led ++ news) → (∀ q ∈ news, ∀ z ∈ led, q.1 < z.1) → DatIn led x d → CellK b d → Q x { s with heap := h', toks := tk' }) →
    wpAny (model prog w) A (call (.ref f) [.int v tv]) Q E s
theorem news_swap5 {h₀ h : Heap} {L : Addr} {x1 x2 x3 x4 x5 a b c d t : Addr × Obj} (N : News h₀ L h [x1, x2, x3, x4, x5, a, b, c, d, t]) : News h₀ L h (a :: b :: c :: d :: t :: [x1, x2, x3, x4, x5]) := by
  intro q hq
  refine N q ?_
  simp only [List.mem_cons, List.not_mem_nil, or_false] at hq ⊢
  rcases hq with h | h | h | h | h | h | h | h | h | h <;> simp [h]
theorem lam_text {i j : Int} (hi : i = 0 ∨ i = 1) (hj : j = 0 ∨ j = 1) : (Txt.item (Str.ofString "ab") i).length + (Txt.mul (Str.ofString "c") j).length ≤ sizeLine ∧ PyData.strOk (Txt.item (Str.ofString "ab") i ++ Txt.mul (Str.ofString "c") j) = true := by
  rcases hi with rfl | rfl <;> rcases hj with rfl | rfl <;> exact ⟨Nat.le_trans (show _ ≤ 2 by decide +kernel) (by decide), by decide +kernel⟩
theorem ints_take : ∀ (n : Nat) {vs : List Value} {ns : List Int}, IntsAre vs ns → IntsAre (vs.take n) (ns.take n)
  | 0, _, _, _ => by simpa using IntsAre.nil
  | n + 1, _, _, .nil => by simpa using IntsAre.nil
  | n + 1, _, _, .cons i t h => by simpa using IntsAre.cons i t (ints_take n h)
theorem ints_get {i : Nat} {u : Value} : ∀ {vs : List Value} {ns : List Int}, IntsAre vs ns → vs[i]? = some u → ∃ k t, u = .int k t := by
  intro vs ns h
  induction h generalizing i with
  | nil => intro e; simp at e
  | cons n t h ih =>
    intro e
    cases i with
    | zero => simp at e; exact ⟨n, t, e.symm⟩
    | succ i => simp at e; exact ih e
theorem slice_base {prog : Program} {w : World} {A : Around} {E : Value → Shared → Prop} {s : Shared} {h₀ : Heap} {L l : Addr} {m : Str → Option Value} {news : List (Addr × Obj)} {vs : List Value} {ns : List Int} {y : Int} {t : Tok} {value slice : Expr} {Q : Value → Shared → Prop}
    (F : Fr h₀ L s.heap m) (N : News h₀ L s.heap news) (hl : h₀.IsList l vs.toArray) (hI : IntsAre vs ns) (hy : 0 ≤ y) (hz : ns.length ≤ 1000)
    (h : ∀ D us h', Fr h₀ L h' m → News h₀ L h' ((D, listOf (List.toArray us) 0) :: news) → (∀ p ∈ news, p.1 < D) → IntsAre us (ns.take y.toNat) → Q (.ref D) { s with heap := h' })
    (hs : subscripted slice false (.ref l) (.ref s.heap.objs.size) = operate [.ref s.heap.objs.size, .ref l] (getItem (.ref l) (.ref s.heap.objs.size))) (ht : ∀ r, letTemporaryGo value (.ref l) r = pure ()) :
    wpAny (model prog w) A (subscriptTail value slice (.ref l) (.ref s.heap.objs.size)) Q E { s with heap := s.heap.push { cls := .type "slice", data := .fields #[.none, .int y t, .none] } } := by
  have e : kms_pick vs.toArray.toList none (some y) = vs.take y.toNat := by
    show (vs.drop (kms_lo none vs.length)).take (kms_hi (some y) vs.length - kms_lo none vs.length) = _
    simp only [kms_lo, kms_hi, if_neg (show ¬ y < 0 by omega), List.drop_zero, Nat.sub_zero]
    exact kmk_take_min _ _
  have hz' : vs.toArray.size ≤ sizeLine := by rw [List.size_toArray, hI.length]; exact Nat.le_trans hz (by decide)
  exact kms_slice_lit F N (hl.at fun o e => F.keep _ o e) .none (.int _ _) e (fun D h' F' N' l1 => h D _ h' F' N' l1 (ints_take _ hI)) hs ht hz'
theorem news_drop2 {h₀ h : Heap} {L : Addr} {a b : Addr × Obj} {l : List (Addr × Obj)} (N : News h₀ L h (a :: b :: l)) : News h₀ L h (a :: l) := fun q hq => by
  rcases List.mem_cons.mp hq with rfl | hq
  · exact N _ List.mem_cons_self
  · exact N _ (List.mem_cons_of_mem _ (List.mem_cons_of_mem _ hq))
theorem news_front {h₀ h : Heap} {L : Addr} {a : Addr × Obj} {l₁ l₂ : List (Addr × Obj)} (N : News h₀ L h (l₁ ++ a :: l₂)) : News h₀ L h (a :: (l₁ ++ l₂)) := fun q hq => by
  refine N q ?_
  rcases List.mem_cons.mp hq with rfl | hq
  · exact List.mem_append_right _ List.mem_cons_self
  · rcases List.mem_append.mp hq with hq | hq
    · exact List.mem_append_left _ hq
    · exact List.mem_append_right _ (List.mem_cons_of_mem _ hq)
theorem row_dat {l₁ l₂ l₃ : List (Addr × Obj)} {ys : List Value} {rows : List Dat} {y : Value} {d : Dat} (hys : DatAll (l₂ ++ l₃) ys rows) (hy : DatIn l₁ y d) : DatAll (l₁ ++ l₂ ++ l₃) (ys ++ [y]) (rows ++ [d]) := by
  refine (hys.mono fun q hq => ?_).append (.one (hy.mono fun q hq => ?_))
  · rw [List.append_assoc]; exact List.mem_append_right _ hq
  · rw [List.append_assoc]; exact List.mem_append_left _ hq
open PyProof.Rows.LCg (lst NsObj) in
theorem post_assign2 {prog : Program} {w : World} {A : Around} {E : Value → Shared → Prop} {s : Shared} {h₀ : Heap} {L : Addr} {m : Str → Option Value} {env : Env} {Q : Shared → Prop} {y : Str} {py : Pos} {C D : Addr} {ys : List Value} {led : List (Addr × Obj)} {h : Heap} {tk : Nat} {oC : Obj} {m₂ : Str → Option Value}
    (hC : NsObj oC m₂) (F : Fr h₀ L h m) (N : News h₀ L h ((C, oC) :: (D, lst ys) :: led)) (hDC : D ≠ C) (off : ∀ p ∈ led, p.1 ≠ C)
    (q : ∀ h', Fr h₀ L h' (fun z => if z = y then some (.ref D) else m z) → News h₀ L h' ((D, lst ys) :: led) → Q { s with heap := h', toks := tk + 1 })
    (hLe : env.locals = L) (hy : env.kindOf y = some .local) (hp : (env.scope.kind == .class || (env.scope.kind == .module && env.locals != env.globals)) = false) :
    compPost (model prog w) A E (some (assign (.Name y py) env)) (fun _ s' => Q s') (.ref D) C (.ok .next) { s with heap := h, toks := tk } :=
  post_assign (Q := fun _ => Q) hLe hy hp hC F N hDC off q
theorem key_ok (a b : Int) : KeyOk (a.fmod 3, 1 - 2 * (b.fmod 2)) := by
  have h1 := Int.fmod_nonneg_of_pos a (show (0 : Int) < 3 by decide)
  have h2 := Int.fmod_lt_of_pos a (show (0 : Int) < 3 by decide)
  have h3 := Int.fmod_two_eq b
  constructor
  · show a.fmod 3 = 0 ∨ a.fmod 3 = 1 ∨ a.fmod 3 = 2
    omega
  · show 1 - 2 * (b.fmod 2) = 1 ∨ 1 - 2 * (b.fmod 2) = -1
    omega
theorem key_dat {l₁ l₂ : List (Addr × Obj)} {ys : List Value} {keys : List (Int × Int)} {y : Value} {k : Int × Int} (hys : DatAll l₂ ys (keys.map keyD)) (hy : DatIn l₁ y (keyD k)) : DatAll (l₁ ++ l₂) (ys ++ [y]) ((keys ++ [k]).map keyD) := by
  rw [List.map_append]
  exact (hys.mono fun q hq => List.mem_append_right _ hq).append (.one (hy.mono fun q hq => List.mem_append_left _ hq))
theorem news_swap2 {h₀ h : Heap} {L : Addr} {a b : Addr × Obj} {l : List (Addr × Obj)} (N : News h₀ L h (a :: b :: l)) : News h₀ L h (b :: a :: l) := fun q hq => by
  refine N q ?_
  simp only [List.mem_cons] at hq ⊢
  rcases hq with h | h | h <;> simp [h]
theorem list_ok {b : Bool} {rows : List Dat} (h : ∀ r ∈ rows, RowK b r) : kqdOk 8 (.list rows) = true := by
  show rows.all (kqdOk 7) = true
  rw [List.all_eq_true]
  intro r hr
  cases h r hr with
  | mk x y c z hc =>
    cases hc with
    | str x hx => simp [kqdOk, hx]
    | pair => rfl
def notCell (q : Addr × Obj) : Bool := match q.2.data with | .cell _ => false | _ => true
def strip (l : List (Addr × Obj)) : List (Addr × Obj) := l.filter notCell
theorem strip_mem {l : List (Addr × Obj)} {q : Addr × Obj} (h : q ∈ l) (hn : notCell q = true) : q ∈ strip l := List.mem_filter.mpr ⟨h, hn⟩
mutual
theorem datIn_strip {l : List (Addr × Obj)} : ∀ {v : Value} {d : Dat}, DatIn l v d → DatIn (strip l) v d
  | _, _, .none => .none
  | _, _, .bool b => .bool b
  | _, _, .int i t => .int i t
  | _, _, .str x t => .str x t
  | _, _, .bytes b t => .bytes b t
  | _, _, .tuple h1 h2 => .tuple (strip_mem h1 rfl) (datAll_strip h2)
  | _, _, .list h1 h2 => .list (strip_mem h1 rfl) (datAll_strip h2)
theorem datAll_strip {l : List (Addr × Obj)} : ∀ {vs : List Value} {ds : List Dat}, DatAll l vs ds → DatAll (strip l) vs ds
  | _, _, .nil => .nil
  | _, _, .cons h1 h2 => .cons (datIn_strip h1) (datAll_strip h2)
end
theorem judge_strip {w : World} {l : List (Addr × Obj)} {v : Value} {keys : List (Int × Int)} (h : JudgeIn w l v keys) : JudgeIn w (strip l) v keys := by
  cases h with
  | mk h1 h2 h3 h4 => exact .mk (strip_mem h1 rfl) (strip_mem h2 rfl) (strip_mem h3 rfl) (datAll_strip h4)
theorem strip_off {h₀ h : Heap} {L c : Addr} {l : List (Addr × Obj)} {k : Obj} {x : Option Value} (N : News h₀ L h l) (hk : (c, k) ∈ l) (hd : k.data = .cell x) : ∀ q ∈ strip l, q.1 ≠ c := by
  intro q hq e
  obtain ⟨h1, h2⟩ := List.mem_filter.mp hq
  have e1 := (N q h1).1
  have e2 := (N _ hk).1
  rw [e] at e1
  have e3 : q.2 = k := Option.some.inj (e1.symm.trans e2)
  unfold notCell at h2
  rw [e3, hd] at h2
  cases h2
theorem strip_news {h₀ h : Heap} {L : Addr} {l : List (Addr × Obj)} {a b : Addr × Obj} (N : News h₀ L h l) (ha : a ∈ l) (hb : b ∈ l) : News h₀ L h (a :: b :: strip l) := fun q hq => by
  rcases List.mem_cons.mp hq with rfl | hq
  · exact N _ ha
  · rcases List.mem_cons.mp hq with rfl | hq
    · exact N _ hb
    · exact N _ (List.mem_filter.mp hq).1
theorem is_alike (cv : Int) {inst : Decidable (cv = 0)} : ((cv == 0) != @decide (cv = 0) inst) = false := by
  by_cases h : cv = 0
  · simp [h]
  · simp [h]
section
variable {prog : Program} {w : World} {A : Around} {E : Value → Shared → Prop} {s : Shared} {h₀ : Heap} {L l : Addr} {news dl : List (Addr × Obj)} {vs : List Value} {ds : List Dat} {n : Nat} {u : Tok} {value slice : Expr} {Q : Value → Shared → Prop}
theorem dat_first (N : News h₀ L s.heap news) (hm : (l, listOf vs.toArray n) ∈ news) (hd : DatAll dl vs ds) (hne : ds ≠ [])
    (h : ∀ x d, DatIn dl x d → d ∈ ds → Q x s)
    (hs : subscripted slice false (.ref l) (.int 0 u) = operate [.ref l, .int 0 u] (getItem (.ref l) (.int 0 u)) := by with_unfolding_all rfl) (hg : ∀ r, letTemporaryGo value (.ref l) r = pure () := by intro _; with_unfolding_all rfl) :
    wpAny (model prog w) A (subscriptTail value slice (.ref l) (.int 0 u)) Q E s := by
  have hl : 0 < ds.length := List.length_pos_iff.mpr hne
  obtain ⟨x, hx, hxd⟩ := hd.get hl
  exact item_listL (News.isList N hm) (by decide) (by decide) hx (h x _ hxd (List.getElem_mem hl)) hs hg
theorem dat_last (N : News h₀ L s.heap news) (hm : (l, listOf vs.toArray n) ∈ news) (hd : DatAll dl vs ds) (hne : ds ≠ [])
    (h : ∀ x d, DatIn dl x d → d ∈ ds → Q x s)
    (hs : subscripted slice false (.ref l) (.int (-1) u) = operate [.ref l, .int (-1) u] (getItem (.ref l) (.int (-1) u)) := by with_unfolding_all rfl) (hg : ∀ r, letTemporaryGo value (.ref l) r = pure () := by intro _; with_unfolding_all rfl) :
    wpAny (model prog w) A (subscriptTail value slice (.ref l) (.int (-1) u)) Q E s := by
  have hl : 0 < ds.length := List.length_pos_iff.mpr hne
  have hk : ds.length - 1 < ds.length := by omega
  obtain ⟨x, hx, hxd⟩ := hd.get hk
  have hL := News.isList N hm
  have hsz : vs.toArray.size = ds.length := by rw [List.size_toArray, hd.length]
  refine subscriptTail_builtin hL.typeIs slot_list_getitem.lookup (wpAny_getItem_list_neg hL (by decide) (by omega) (by decide) (x := x) ?_ (h x _ hxd (List.getElem_mem hk))) hs hg
  have e : ((-1 : Int) + vs.toArray.size).toNat = ds.length - 1 := by omega
  rw [e]
  simpa using hx
end
end Mine
end
section
open PySem PySem.W PyProof.Rows
set_option maxRecDepth 100000
set_option maxHeartbeats 4000000
namespace Mine
theorem the_law : PySem.Challenge.rw_dz0085_01.Holds := hd (by
  k_go0
  rename World => w
  rename Shared => s₁
  rename Fr _ _ _ _ => FX
  rename News _ _ _ _ => NX
  rename IntsAre _ _ => hI
  rename Below _ _ _ _ => B
  rename Top _ _ _ _ _ _ => T
  rename Frag.In _ _ => X
  refine wpAny_mono (Q := fun f s' => f = .ret (.bool true) ∧ ∃ h tk m' ps, s' = { s₁ with heap := h, toks := tk } ∧ Fr (ghostOf s₁.heap [(58, 56)]) s₁.heap.objs.size h m' ∧ News (ghostOf s₁.heap [(58, 56)]) s₁.heap.objs.size h [(56, tabObj ps)]) (E := fun _ _ => False) ?_ ?_ (fun _ _ h => h.elim)
  · iterate 12 walk1
    refine wpAny_mono (Q := fun f s' => f = .next ∧ ∃ h tk m' b F own ps k1 k2 k3 k4 tt tot sl vs ns p loose mean mg mb, s' = { s₁ with heap := h, toks := tk } ∧ Fr (ghostOf s₁.heap [(58, 56)]) s₁.heap.objs.size h m' ∧ m' (Str.ofString "script") = some (.ref sl) ∧ (ghostOf s₁.heap [(58, 56)]).IsList sl (List.toArray vs) ∧ IntsAre vs ns ∧ ns.length ≤ 63 ∧
      News (ghostOf s₁.heap [(58, 56)]) s₁.heap.objs.size h ((s₁.heap.objs.size + 1 + 1 + 1 + 1, k1) :: (s₁.heap.objs.size + 1 + 1 + 1, k2) :: (s₁.heap.objs.size + 1 + 1, k3) :: (s₁.heap.objs.size + 1, k4) :: (56, tabObj ps) :: own) ∧ k1.data = .cell none ∧ k2.data = .cell none ∧ k3.data = .cell (some (.ref F)) ∧ k4.data = .cell (some (.int tot tt)) ∧ (∀ q ∈ own, q.2.data ≠ .cell none) ∧
      Top p loose mean mg mb (ghostOf s₁.heap [(58, 56)]) ∧ LamIs Challenge.rw_dz0085_01.row.prog w p loose mean mg mb b F own) (E := fun _ _ => False) ?_ ?_ (fun _ _ h => h.elim)
    · iterate 20 walk1
      all_goals iterate 2 walk1
      all_goals rename News _ _ _ _ => N₂
      all_goals rename Fr _ _ _ _ => F₂
      · refine ⟨trivial, _, _, _, false, _, _, _, _, _, _, _, _, _, _, _, _, _, _, _, _, _, rfl, F₂, by rfl, lifted, hI, by omega, news_swap5 N₂, by assumption, by assumption, by assumption, by assumption, ?_, T, ?_⟩
        · simp_all
        refine ⟨⟨_, _, _, _, List.mem_cons_of_mem _ (List.mem_cons_of_mem _ (List.mem_cons_of_mem _ List.mem_cons_self))⟩, ?_⟩
        clear F₂ N₂ B T X
        intro A A₀ base h₀ outer env L m news s v tv Q E B F X N T hsub hA hf hk hdp hun hh ret
        refine wpAny_call ?_
        k_dflt (refine' kla_code (binds := [(Str.ofString "v", .int v tv)]) B F X N T hA hf hk ?l6 ?l7 ?l8 ?l9 ?lB ?_ ?l2 ?l3 ?l4 ?l5)
        case l6 => exact hsub _ (List.mem_cons_of_mem _ (List.mem_cons_of_mem _ (List.mem_cons_of_mem _ List.mem_cons_self)))
        case l7 => exact codeRec_news N (hsub _ (List.mem_cons_of_mem _ (List.mem_cons_of_mem _ (List.mem_cons_of_mem _ (List.mem_cons_of_mem _ List.mem_cons_self))))) (by assumption) (by assumption)
        case l8 => omega
        case l9 => exact rfl
        case lB => exact locs rfl
        case l2 => exact rfl
        case l3 => exact rfl
        case l4 => exact rfl
        case l5 => decide
        intro g L' h' FG F' N' B' X' T'
        iterate 10 walk1
        dsimp only
        iterate 6 walk1
        dsimp only
        iterate 5 walk1
        dsimp only
        have hi := Int.fmod_two_eq (v.fdiv 6)
        have hj := Int.fmod_two_eq (v.fdiv 12)
        obtain ⟨hle, hok⟩ := lam_text hi hj
        refine SBL.add (hsz := hle) (fun t' k _ => ?_)
        dsimp only
        refine ⟨_, _, news, F', N', fun F₇ N₇ => ?_⟩
        exact ret _ _ [] _ _ F₇ N₇ (fun _ _ _ h => nomatch h) (.str _ _) (.str _ hok)
      · refine ⟨trivial, _, _, _, true, _, _, _, _, _, _, _, _, _, _, _, _, _, _, _, _, _, rfl, F₂, by rfl, lifted, hI, by omega, news_swap5 N₂, by assumption, by assumption, by assumption, by assumption, ?_, T, ?_⟩
        · simp_all
        refine ⟨⟨_, _, _, _, List.mem_cons_of_mem _ List.mem_cons_self⟩, ?_⟩
        clear F₂ N₂ B T X
        intro A A₀ base h₀ outer env L m news s v tv Q E B F X N T hsub hA hf hk hdp hun hh ret
        refine wpAny_call ?_
        k_dflt (refine' kla_code (binds := [(Str.ofString "v", .int v tv)]) B F X N T hA hf hk ?n6 ?n7 ?n8 ?n9 ?nB ?_ ?n2 ?n3 ?n4 ?n5)
        case n6 => exact hsub _ (List.mem_cons_of_mem _ List.mem_cons_self)
        case n7 => exact codeRec_news N (hsub _ (List.mem_cons_of_mem _ (List.mem_cons_of_mem _ List.mem_cons_self))) (by assumption) (by assumption)
        case n8 => omega
        case n9 => exact rfl
        case nB => exact locs rfl
        case n2 => exact rfl
        case n3 => exact rfl
        case n4 => exact rfl
        case n5 => decide
        intro g L' h' FG F' N' B' X' T'
        iterate 14 walk1
        dsimp only
        iterate 7 walk1
        rename Fr _ _ _ _ => F₃
        rename News _ _ _ _ => N₃
        rename ∀ p ∈ news, p.1 < _ => l₃
        dsimp only
        refine ⟨_, _, _, F₃, N₃, fun F₇ N₇ => ?_⟩
        exact ret _ _ [_] _ _ F₇ N₇ (fun q hq z hz => by rw [List.mem_singleton.mp hz]; exact l₃ q hq) (.tuple (n := 0) List.mem_cons_self (.cons (.int _ _) (.cons (.int _ _) .nil))) (.pair _ _)
    · rintro f s' ⟨rfl, h, tk, m', b, Fl, own, ps, k1, k2, k3, k4, tt, tot, sl, vs, ns, p, loose, mean, mg, mb, rfl, F₁, hsc, hl, hI, hlen, N₁, dk1, dk2, dk3, dk4, hnc, T, ⟨_, _, _, _, Lmem⟩, LAM⟩
      dsimp only
      iterate 1 walk1
      obtain ⟨news₀, hnews⟩ : ∃ n : List (Addr × Obj), n = (s₁.heap.objs.size + 1 + 1 + 1 + 1, k1) :: (s₁.heap.objs.size + 1 + 1 + 1, k2) :: (s₁.heap.objs.size + 1 + 1, k3) :: (s₁.heap.objs.size + 1, k4) :: (56, tabObj ps) :: own := ⟨_, rfl⟩
      rw [← hnews] at N₁
      refine wpAny_mono (Q := fun f s' => f = .next ∧ ∃ h tk m' R zs c rows led, s' = { s₁ with heap := h, toks := tk } ∧ Fr (ghostOf s₁.heap [(58, 56)]) s₁.heap.objs.size h m' ∧ m' (Str.ofString "rows") = some (.ref R) ∧ News (ghostOf s₁.heap [(58, 56)]) s₁.heap.objs.size h ((R, listOf (List.toArray zs) c) :: (led ++ news₀)) ∧ (∀ q ∈ news₀, q.1 < R) ∧ (∀ q ∈ news₀, ∀ z ∈ led, q.1 < z.1) ∧ DatAll (led ++ news₀) zs rows ∧ RowsOk b rows) (E := fun _ _ => False) ?_ ?_ (fun _ _ h => h.elim)
      · refine comp_assign (by with_unfolding_all rfl) (by with_unfolding_all rfl) rfl (by decide) (fun _ => rfl) ?_
        iterate 4 walk1
        refine wpAny_mono (Q := fun x s' => ∃ xa us is n h tk, x = .ref xa ∧ s' = { s₁ with heap := h, toks := tk } ∧ Fr (ghostOf s₁.heap [(58, 56)]) s₁.heap.objs.size h m' ∧ News (ghostOf s₁.heap [(58, 56)]) s₁.heap.objs.size h ((xa, listOf (List.toArray us) n) :: news₀) ∧ (∀ q ∈ news₀, q.1 < xa) ∧ IntsAre us is ∧ is ≠ [] ∧ is.length ≤ 24) (E := fun _ _ => False) ?_ ?_ (fun _ _ h => h.elim)
        · iterate 2 walk1
          refine nameX_L F₁ hsc ?_
          iterate 5 walk1
          refine slice_base F₁ N₁ hl hI (by decide) (by omega) (fun D us h₂ F₂ N₂ l₂ hI₂ => ?_) (by with_unfolding_all rfl) (fun _ => rfl)
          have hI₂l := hI₂.length
          rw [List.length_take] at hI₂l
          refine wpAny_truthy_list (News.isList N₂ List.mem_cons_self) (by rw [List.size_toArray]; omega) ?_
          by_cases hz : us = []
          · subst hz
            simp only [List.isEmpty_toArray, List.isEmpty_nil, Bool.not_true, Bool.false_eq_true, if_false]
            iterate 11 walk1
            refine newList_K F₂ N₂ (fun va h₃ F₃ N₃ l₃ => ?_) (show 4 ≤ sizeLine by decide)
            exact ⟨va, _, [4, 1, 3, 4], _, h₃, _, rfl, rfl, F₃, news_drop2 N₃, fun q hq => l₃ q (List.mem_cons_of_mem _ hq), .cons _ _ (.cons _ _ (.cons _ _ (.cons _ _ .nil))), by decide, by decide⟩
          · have hz' : us.isEmpty = false := by cases us with | nil => exact absurd rfl hz | cons _ _ => rfl
            simp only [List.isEmpty_toArray, hz', Bool.not_false, if_true]
            refine ⟨_, _, _, _, _, _, rfl, rfl, F₂, N₂, l₂, hI₂, ?_, ?_⟩
            · intro e
              rw [e] at hI₂
              cases hI₂
              exact hz rfl
            · rw [List.length_take]
              exact Nat.min_le_left _ _
        · rintro x s' ⟨xa, us, is, n, h₂, tk₂, rfl, rfl, F₂, N₂, l₂, hI₂, hne, h24⟩
          clear F₁ N₁
          iterate 1 walk1
          refine comp_enum (fun i ys led => ys.length = i ∧ (∀ q ∈ news₀, ∀ z ∈ led, q.1 < z.1) ∧ ∃ rows, DatAll (led ++ news₀) ys rows ∧ (∀ r ∈ rows, RowK b r) ∧ rows.Pairwise (fun a b => posD a < posD b) ∧ ∀ r ∈ rows, posD r < i) rfl rfl rfl (by decide) (by decide) rfl F₂ N₂ List.mem_cons_self ?_ ⟨rfl, fun _ _ _ h => (nomatch h), [], .nil, fun _ h => (nomatch h), .nil, fun _ h => (nomatch h)⟩ (fun _ _ _ => Around.under_of_weight rfl rfl) ?_ ?_
          · rintro i ys led ⟨hyl, _⟩ hi
            have := hI₂.length
            rw [sizeLine_eq]
            omega
          · rintro i C oC m₂ ys led rest s' Q' E' hi ⟨hyl, hord, rows, hys, hrk, hpw, hpos⟩ hC ⟨t, u, hmk, hmv, hu⟩ F N hs K
            obtain ⟨v, tv, rfl⟩ := ints_get hI₂ hu
            iterate 4 walk1
            refine name_C rfl rfl N hC hmv ?_
            iterate 4 walk1
            refine name_C rfl rfl N hC hmv ?_
            iterate 4 walk1
            have hn3 : (s₁.heap.objs.size + 1 + 1, k3) ∈ news₀ := by rw [hnews]; simp
            have hown : ∀ q ∈ own, q ∈ news₀ := by intro q hq; rw [hnews]; simp [hq]
            refine kcf_cell N rfl (List.mem_cons_of_mem _ (hs _ (List.mem_append_right _ (List.mem_cons_of_mem _ hn3)))) dk3 ?_
            have hFn : FnAt Fl s'.heap := FnAt.of N (List.mem_cons_of_mem _ (hs _ (List.mem_append_right _ (List.mem_cons_of_mem _ (hown _ Lmem)))))
            refine callWith_F hFn ?_
            iterate 1 walk1
            refine name_C rfl rfl N hC hmv ?_
            iterate 1 walk1
            refine ⟨hFn, ?_⟩
            refine LAM _ callerA _ _ [] _ _ _ _ _ v tv _ _ B F X N T (fun q hq => List.mem_cons_of_mem _ (hs _ (List.mem_append_right _ (List.mem_cons_of_mem _ (hown q hq))))) rfl rfl rfl (Nat.le_of_ble_eq_true rfl) (Nat.le_of_ble_eq_true rfl) rfl ?_
            intro x d led₂ h₄ tk₄ F₄ N₄ hord₄ hx hd
            iterate 1 walk1
            refine name_C rfl rfl (news_front N₄) hC hmk ?_
            iterate 1 walk1
            refine kup_newTuple F₄ N₄ (fun D₅ h₅ F₅ N₅ l₅ => ?_) (show 4 ≤ sizeLine by decide)
            have hsub₀ : ∀ q ∈ news₀, q ∈ (C, oC) :: rest := fun q hq => List.mem_cons_of_mem _ (hs _ (List.mem_append_right _ (List.mem_cons_of_mem _ hq)))
            refine K _ (_ :: led₂) h₅ _ F₅ N₅ ?_ ⟨?_, ?_, rows ++ [.tuple [.int (v.fmod 3), .int (v.fdiv 3), d, .int i]], ?_, ?_, ?_, ?_⟩
            · intro q hq z hz
              rcases List.mem_cons.mp hz with rfl | hz
              · exact l₅ q (List.mem_append_right _ hq)
              · exact hord₄ q hq z hz
            · rw [List.length_append, hyl]; rfl
            · intro q hq z hz
              rcases List.mem_append.mp hz with hz | hz
              · rcases List.mem_cons.mp hz with rfl | hz
                · exact l₅ q (List.mem_append_right _ (hsub₀ q hq))
                · exact hord₄ q (hsub₀ q hq) z hz
              · exact hord q hq z hz
            · exact row_dat hys (.tuple (n := 0) List.mem_cons_self (.cons (.int _ _) (.cons (.int _ _) (.cons (hx.mono fun q hq => List.mem_cons_of_mem _ hq) (.cons (.int _ _) .nil)))))
            · intro r hr
              rcases List.mem_append.mp hr with hr | hr
              · exact hrk r hr
              · rw [List.mem_singleton.mp hr]; exact .mk _ _ _ _ hd
            · rw [List.pairwise_append]
              refine ⟨hpw, List.pairwise_singleton _ _, fun a ha c hc => ?_⟩
              rw [List.mem_singleton.mp hc]
              exact hpos a ha
            · intro r hr
              rcases List.mem_append.mp hr with hr | hr
              · have := hpos r hr; omega
              · rw [List.mem_singleton.mp hr]; show (i : Int) < ((i + 1 : Nat) : Int); omega
          · rintro D C ys led h₃ tk₃ oC m₂ ⟨hyl, hord, rows, hys, hrk, hpw, hpos⟩ hC F₃ N₃ hDC offC hltD offD
            refine post_assign2 hC F₃ N₃ hDC offC (fun h₄ F₄ N₄ => ?_) rfl rfl rfl
            refine ⟨trivial, h₄, _, _, D, ys, ys.length, rows, led ++ [(xa, listOf (List.toArray us) n)], rfl, F₄, by rfl, ?_, fun q hq => hltD q (List.mem_cons_of_mem _ hq), ?_, ?_, ?_⟩
            · rw [List.append_assoc]; exact N₄
            · intro q hq z hz
              rcases List.mem_append.mp hz with hz | hz
              · exact hord q hq z hz
              · rw [List.mem_singleton.mp hz]; exact l₂ q hq
            · refine hys.mono fun q hq => ?_
              rcases List.mem_append.mp hq with hq | hq
              · exact List.mem_append_left _ (List.mem_append_left _ hq)
              · exact List.mem_append_right _ hq
            · have e1 := hys.length
              have e2 := hI₂.length
              refine ⟨?_, by omega, hrk, hpw⟩
              intro e
              rw [e] at e1
              have : is.length = 0 := by simp only [List.length_nil] at e1; omega
              exact hne (List.length_eq_zero_iff.mp this)
      · rintro f s' ⟨rfl, h, tk, m₁, R, zs, c, rows, led, rfl, F₁, hR, N₁, lR, lled, hzs, hrows⟩
        dsimp only
        iterate 1 walk1
        obtain ⟨news₁, hnews₁⟩ : ∃ n : List (Addr × Obj), n = (R, listOf (List.toArray zs) c) :: (led ++ news₀) := ⟨_, rfl⟩
        rw [← hnews₁] at N₁
        refine wpAny_mono (Q := fun f s' => f = .next ∧ ∃ h tk m' Kd ks ck keys led₂, s' = { s₁ with heap := h, toks := tk } ∧ Fr (ghostOf s₁.heap [(58, 56)]) s₁.heap.objs.size h m' ∧ m' (Str.ofString "rows") = some (.ref R) ∧ m' (Str.ofString "keys") = some (.ref Kd) ∧ News (ghostOf s₁.heap [(58, 56)]) s₁.heap.objs.size h ((Kd, listOf (List.toArray ks) ck) :: (led₂ ++ news₁)) ∧ (∀ q ∈ news₁, q.1 < Kd) ∧ (∀ q ∈ news₁, ∀ z ∈ led₂, q.1 < z.1) ∧ DatAll led₂ ks (keys.map keyD) ∧ keys ≠ [] ∧ keys.length ≤ 3 ∧ ∀ k ∈ keys, KeyOk k) (E := fun _ _ => False) ?_ ?_ (fun _ _ h => h.elim)
        · refine comp_assign (by with_unfolding_all rfl) (by with_unfolding_all rfl) rfl (by decide) (fun _ => rfl) ?_
          iterate 4 walk1
          have hn4 : (s₁.heap.objs.size + 1, k4) ∈ news₁ := by rw [hnews₁, hnews]; simp
          refine wpAny_mono (Q := fun x s' => ∃ (n : Nat) (t : Tok) (tk : Nat), x = .int n t ∧ 1 ≤ n ∧ n ≤ 3 ∧ s' = { s₁ with heap := h, toks := tk }) (E := fun _ _ => False) ?_ ?_ (fun _ _ h => h.elim)
          · iterate 3 walk1
            refine nameX_C N₁ rfl hn4 dk4 ?_
            iterate 4 walk1
            dsimp only
            refine P.truthy_int ?_
            have h4a := Int.fmod_nonneg_of_pos (tot.fdiv 216) (show (0 : Int) < 4 by decide)
            have h4b := Int.fmod_lt_of_pos (tot.fdiv 216) (show (0 : Int) < 4 by decide)
            by_cases hz : (tot.fdiv 216).fmod 4 = 0
            · rw [hz]
              simp only [bne_self_eq_false, Bool.false_eq_true, if_false]
              iterate 2 walk1
              exact ⟨2, _, _, rfl, by decide, by decide, rfl⟩
            · rw [if_pos (by simpa using hz)]
              exact ⟨((tot.fdiv 216).fmod 4).toNat, _, _, by rw [Int.toNat_of_nonneg h4a], by omega, by omega, rfl⟩
          · rintro x s' ⟨n, t, tk₂, rfl, h1n, hn3, rfl⟩
            iterate 2 walk1
            rename Fr _ _ _ _ => F₂
            rename News _ _ _ _ => N₂
            rename IsRange _ _ _ _ _ _ _ _ => hr
            refine comp_range (fun i ys led₂ => ys.length = i ∧ (∀ q ∈ news₁, ∀ z ∈ led₂, q.1 < z.1) ∧ ∃ keys, DatAll led₂ ys (List.map keyD keys) ∧ ∀ k ∈ keys, KeyOk k) rfl rfl (by decide) rfl F₂ N₂ hr (by omega) ?_ ⟨rfl, fun _ _ _ h => (nomatch h), [], .nil, fun _ h => (nomatch h)⟩ (fun _ _ _ => Around.under_of_weight rfl rfl) ?_ ?_
            · rintro i ys led₂ ⟨hyl, _⟩ hi
              rw [sizeLine_eq]
              omega
            · rintro i C oC m₂ ys led₂ rest s' Q' E' hi ⟨hyl, hord, keys, hys, hko⟩ hC ⟨t₁, hmk⟩ F N hs K
              have hn4' : (s₁.heap.objs.size + 1, k4) ∈ rest := hs _ (List.mem_append_right _ hn4)
              iterate 4 walk1
              refine kcf_cell N rfl (List.mem_cons_of_mem _ hn4') dk4 ?_
              iterate 2 walk1
              refine name_C rfl rfl N hC hmk ?_
              obtain ⟨P6, hP6, hP1, hP2⟩ : ∃ P6 : Int, (6 : Int) ^ ((i : Int).toNat) = P6 ∧ 1 ≤ P6 ∧ P6 ≤ 36 := by
                have : i = 0 ∨ i = 1 ∨ i = 2 := by omega
                rcases this with rfl | rfl | rfl <;> exact ⟨_, rfl, by decide, by decide⟩
              refine pow_int_small (by omega) (by omega) (by decide) ?_
              rw [hP6]
              refine floordiv_int (by omega) ?_ (Or.inl (PyProof.noPylong_small (by omega)))
              iterate 10 walk1
              refine kcf_cell N rfl (List.mem_cons_of_mem _ hn4') dk4 ?_
              iterate 2 walk1
              refine name_C rfl rfl N hC hmk ?_
              refine pow_int_small (by omega) (by omega) (by decide) ?_
              rw [hP6]
              refine floordiv_int (by omega) ?_ (Or.inl (PyProof.noPylong_small (by omega)))
              iterate 7 walk1
              refine kup_newTuple F N (fun D₅ h₅ F₅ N₅ l₅ => ?_) (show 2 ≤ sizeLine by decide)
              refine K _ [_] h₅ _ F₅ N₅ ?_ ⟨?_, ?_, keys ++ [(_, _)], key_dat hys (.tuple (n := 0) List.mem_cons_self (.cons (.int _ _) (.cons (.int _ _) .nil))), ?_⟩
              · intro q hq z hz
                rw [List.mem_singleton.mp hz]
                exact l₅ q hq
              · rw [List.length_append, hyl]; rfl
              · intro q hq z hz
                rcases List.mem_append.mp hz with hz | hz
                · rw [List.mem_singleton.mp hz]
                  exact l₅ q (List.mem_cons_of_mem _ (hs q (List.mem_append_right _ hq)))
                · exact hord q hq z hz
              · intro k hk
                rcases List.mem_append.mp hk with hk | hk
                · exact hko k hk
                · rw [List.mem_singleton.mp hk]; exact key_ok _ _
            · rintro D C ys led₂ h₃ tk₃ oC m₂ ⟨hyl, hord, keys, hys, hko⟩ hC F₃ N₃ hDC offC hltD offD
              refine post_assign2 hC F₃ N₃ hDC offC (fun h₄ F₄ N₄ => ?_) rfl rfl rfl
              have hkl : keys.length = n := by have := hys.length; rw [List.length_map] at this; omega
              refine ⟨trivial, h₄, _, _, D, ys, ys.length, keys, led₂, rfl, F₄, hR, by rfl, N₄, hltD, hord, hys, ?_, by omega, hko⟩
              intro e
              rw [e] at hkl
              simp only [List.length_nil] at hkl
              omega
        · rintro f s' ⟨rfl, h, tk, m₂, Kd, ks, ck, keys, led₂, rfl, F₂, hR₂, hK₂, N₂, lK, lled₂, hks, hkne, hk3, hko⟩
          dsimp only
          obtain ⟨news₂, hnews₂⟩ : ∃ n : List (Addr × Obj), n = (Kd, listOf (List.toArray ks) ck) :: (led₂ ++ news₁) := ⟨_, rfl⟩
          rw [← hnews₂] at N₂
          iterate 1 walk1
          have hksl : ks.length ≤ 3 := by rw [hks.length, List.length_map]; exact hk3
          refine wpAny_mono (Q := fun f s' => f = .next ∧ ∃ h tk m' Jv news₃, s' = { s₁ with heap := h, toks := tk } ∧ Fr (ghostOf s₁.heap [(58, 56)]) s₁.heap.objs.size h m' ∧ m' (Str.ofString "rows") = some (.ref R) ∧ m' (Str.ofString "keys") = some (.ref Kd) ∧ m' (Str.ofString "judge") = some (.ref Jv) ∧ News (ghostOf s₁.heap [(58, 56)]) s₁.heap.objs.size h news₃ ∧ (∀ q ∈ news₂, q ∈ news₃) ∧ JudgeIn w news₃ (.ref Jv) keys) (E := fun _ _ => False) ?_ ?_ (fun _ _ h => h.elim)
          · iterate 9 walk1
            refine nameX_L F₂ hK₂ ?_
            walk1
            refine kde_tupleOf F₂ N₂ (News.isList N₂ (by rw [hnews₂]; exact List.mem_cons_self)) (by rw [List.size_toArray]; omega) rfl (fun Td h₃ F₃ N₃ l₃ => ?_)
            clear F₂ N₂
            iterate 8 walk1
            iterate 4 (first | (k_unfold; (try dsimp only)) | walk1 | (dsimp only; walk1) | (leave1; walk_say "STEP leave1"; try dsimp only) | fail "no step")
            iterate 1 walk1
            rename Fr _ _ _ _ => F₄
            rename News _ _ _ _ => N₄
            exact ⟨trivial, _, _, _, _, _, rfl, F₄, hR₂, hK₂, rfl, N₄, fun q hq => List.mem_cons_of_mem _ (List.mem_cons_of_mem _ (List.mem_cons_of_mem _ hq)), .mk List.mem_cons_self (List.mem_cons_of_mem _ List.mem_cons_self) (List.mem_cons_of_mem _ (List.mem_cons_of_mem _ List.mem_cons_self)) (hks.mono fun q hq => List.mem_cons_of_mem _ (List.mem_cons_of_mem _ (List.mem_cons_of_mem _ (by rw [hnews₂]; exact List.mem_cons_of_mem _ (List.mem_append_left _ hq)))))⟩
          · rintro f s' ⟨rfl, h₃, tk₃, m₃, Jv, news₃, rfl, F₃, hR₃, hK₃, hJ₃, N₃, hs₃, JU⟩
            dsimp only
            clear F₂ N₂
            iterate 2 walk1
            refine nameX_L F₃ hR₃ ?_
            iterate 2 walk1
            rename Fr _ _ _ _ => F₄
            rename News _ _ _ _ => N₄
            obtain ⟨hr0, hr24, hrk, hrp⟩ := hrows
            have hRm : (R, listOf (List.toArray zs) c) ∈ news₃ := hs₃ _ (by rw [hnews₂, hnews₁]; simp)
            have hKm : (Kd, listOf (List.toArray ks) ck) ∈ news₃ := hs₃ _ (by rw [hnews₂]; simp)
            have hdl : ∀ q ∈ led ++ news₀, q ∈ news₃ := fun q hq => hs₃ _ (by rw [hnews₂, hnews₁]; exact List.mem_cons_of_mem _ (List.mem_append_right _ (List.mem_cons_of_mem _ hq)))
            have hkl : ∀ q ∈ led₂, q ∈ news₃ := fun q hq => hs₃ _ (by rw [hnews₂]; exact List.mem_cons_of_mem _ (List.mem_append_left _ hq))
            refine wpAny_mono (Q := fun f s' => f = .next ∧ ∃ h tk m' Du dz cd due news₄, s' = { s₁ with heap := h, toks := tk } ∧ Fr (ghostOf s₁.heap [(58, 56)]) s₁.heap.objs.size h m' ∧ m' (Str.ofString "rows") = some (.ref R) ∧ m' (Str.ofString "keys") = some (.ref Kd) ∧ m' (Str.ofString "judge") = some (.ref Jv) ∧ m' (Str.ofString "due") = some (.ref Du) ∧ News (ghostOf s₁.heap [(58, 56)]) s₁.heap.objs.size h news₄ ∧ (∀ q ∈ news₃, q ∈ news₄) ∧ (Du, listOf (List.toArray dz) cd) ∈ news₄ ∧ DatAll (led ++ news₀) dz due ∧ ColsOut keys.reverse rows due) (E := fun _ _ => False) ?_ ?_ (fun _ _ h => h.elim)
            · refine For_turns F₄ ?_ (fun _ => rfl)
              iterate 1 walk1
              refine nameX_L F₄ hK₃ ?_
              iterate 7 walk1
              refine slice_dir (Or.inr rfl) F₄ N₄ hKm hks (by rw [List.length_map]; omega) ?_ (by with_unfolding_all rfl)
              intro Dk us h₅ F₅ N₅ l₅ hus
              refine iter_listTurns (lo := listOf us.toArray 0) rfl F₅ N₅ List.mem_cons_self rfl rfl (fun I hI => ?_)
              obtain ⟨m₁, hm₁, hR₅, hK₅, hJ₅, hD₅⟩ : ∃ m₁ : Str → Option Value, m₁ = (fun y => if y = Str.ofString "due" then some (Value.ref R) else m₃ y) ∧ m₁ (Str.ofString "rows") = some (.ref R) ∧ m₁ (Str.ofString "keys") = some (.ref Kd) ∧ m₁ (Str.ofString "judge") = some (.ref Jv) ∧ m₁ (Str.ofString "due") = some (.ref R) := ⟨_, rfl, hR₃, hK₃, hJ₃, rfl⟩
              rw [← hm₁]
              clear hm₁ F₄ N₄ F₅ N₅
              obtain ⟨vs, hvs⟩ : ∃ vs, vs = us := ⟨_, rfl⟩
              obtain ⟨kr, hkr⟩ : ∃ kr, kr = keys.reverse := ⟨_, rfl⟩
              have hvd : DatAll led₂ vs (kr.map keyD) := by rw [hvs, hkr, List.map_reverse]; exact hus
              have hkro : ∀ k ∈ kr, KeyOk k := fun k hk => hko k (by rw [hkr] at hk; exact List.mem_reverse.mp hk)
              rw [show us.map Itm.val = vs.map Itm.val by rw [hvs]]
              obtain ⟨ledN, hledN⟩ : ∃ l : List (Addr × Obj), l = (Dk, listOf (List.toArray us) 0) :: news₃ := ⟨_, rfl⟩
              have hsN : ∀ q ∈ (Dk, listOf (List.toArray us) 0) :: news₃, q ∈ ledN := fun q hq => by rw [hledN]; exact hq
              have hIN : ∀ q ∈ ledN, q.1 ≠ I := fun q hq => by rw [hledN] at hq; exact Nat.ne_of_lt (hI q hq)
              rw [← hledN]
              obtain ⟨Du, dz, cd, cur, hDu, hDz, hcd, hcur⟩ : ∃ Du dz cd cur, Du = R ∧ dz = zs ∧ cd = c ∧ cur = rows := ⟨_, _, _, _, rfl, rfl, rfl, rfl⟩
              rw [← hDu] at hD₅
              have hDm : (Du, listOf (List.toArray dz) cd) ∈ ledN := by rw [hDu, hDz, hcd]; exact hsN _ (List.mem_cons_of_mem _ hRm)
              have hdz : DatAll (led ++ news₀) dz cur := by rw [hDz, hcur]; exact hzs
              have hperm : cur.Perm rows := by rw [hcur]
              have hfin : ∀ due, ColsOut kr cur due → ColsOut keys.reverse rows due := by rw [hkr, hcur]; exact fun _ h => h
              clear hvs hkr hledN hDu hDz hcd hcur
              induction vs generalizing kr m₁ Du dz cd cur ledN with
              | nil =>
                cases kr with
                | cons k kr => cases hvd
                | nil =>
                refine ItemsRest.zero ?_
                intro h₆ tk₆ F₆ N₆
                exact ⟨rfl, h₆, tk₆, m₁, Du, dz, cd, cur, ledN, rfl, F₆, hR₅, hK₅, hJ₅, hD₅, N₆, fun q hq => hsN q (List.mem_cons_of_mem _ hq), hDm, hdz, hfin _ rfl⟩
              | cons v vs ih =>
                cases kr with
                | nil => cases hvd
                | cons k kr =>
                cases hvd with
                | cons hk hvd =>
                refine ItemsRest.val (fun h₆ tk₆ F₆ => AllObj.cons (fun o₆ ho₆ => AllObj.nil (fun N₆ => ?_)))
                obtain ⟨x, t1, t2, nk, rfl, hx⟩ := pair_in hk
                replace F₆ : Fr (ghostOf s₁.heap [(58, 56)]) s₁.heap.objs.size h₆ m₁ := F₆
                replace N₆ : News (ghostOf s₁.heap [(58, 56)]) s₁.heap.objs.size h₆ ((I, o₆) :: ledN) := N₆
                refine unpackN_ F₆ N₆ (News.isTup N₆ (.tail _ (hsN _ (List.mem_cons_of_mem _ (hkl _ hx))))) rfl rfl rfl ?_
                intro h₇ F₇ N₇
                clear F₆ N₆
                iterate 7 walk1
                rename Fr _ _ _ _ => F₈
                rename News _ _ _ _ => N₈
                iterate 7 walk1
                refine nameX_L F₈ hD₅ ?_
                walk1
                refine nameX_L F₈ rfl ?_
                walk1
                refine nameX_L F₈ rfl ?_
                iterate 2 walk1
                have hcrk : ∀ r ∈ cur, RowK b r := fun r hr => hrk r (hperm.mem_iff.mp hr)
                have hc24 : cur.length ≤ 24 := by rw [hperm.length_eq]; exact hr24
                have hdl8 : ∀ q ∈ led ++ news₀, q ∈ (I, o₆) :: ledN := fun q hq => List.mem_cons_of_mem _ (hsN _ (List.mem_cons_of_mem _ (hdl q hq)))
                k_dflt (refine' column_call cur k (hkro k List.mem_cons_self) _ _ _ _ _ _ _ _ _ _ _ _ _ _ (led ++ news₀) _ _ _ dz cd _ _ _ _ ?cb1 ?cb2 ?cb3 ?cb4 ?cb5 ?cb6 ?cb7 ?cb8 ?cb9 ?cb10 ?cb11 ?cb12 ?cb13 ?cb14)
                case cb1 => exact B
                case cb2 => exact F₈
                case cb3 => exact X
                case cb4 => exact N₈
                case cb5 => exact T
                case cb6 => exact rfl
                case cb7 => exact Nat.le_of_ble_eq_true rfl
                case cb8 => exact Nat.le_of_ble_eq_true rfl
                case cb9 => exact hc24
                case cb10 => exact hdl8
                case cb11 => exact List.mem_cons_of_mem _ hDm
                case cb12 => exact hdz
                case cb13 => exact hcrk
                case cb14 =>
                intro D₉ z₉ c₉ out h₉ tk₉ F₉ N₉ l₉ hz₉ hout
                iterate 4 walk1
                rename Fr _ _ _ _ => F₁₀
                rename News _ _ _ _ => N₁₀
                refine ⟨_, _, _, (D₉, listOf (List.toArray z₉) c₉) :: ledN, rfl, F₁₀, news_swap2 N₁₀, ?_, ⟨List.mem_cons_of_mem _ (hsN _ List.mem_cons_self), trivial⟩, ih _ ?_ ?_ ?_ kr hvd (fun k hk => hkro k (List.mem_cons_of_mem _ hk)) _ (fun q hq => List.mem_cons_of_mem _ (hsN q hq)) ?_ D₉ ?_ z₉ c₉ out List.mem_cons_self hz₉ ((colOut_perm hout).trans hperm) (fun due hdue => hfin due ⟨out, hout, hdue⟩)⟩
                · intro p hp q hq
                  rw [List.mem_singleton.mp hq]
                  rcases List.mem_cons.mp hp with rfl | hp
                  · exact Nat.ne_of_gt (l₉ _ List.mem_cons_self)
                  · exact hIN p hp
                · exact hR₅
                · exact hK₅
                · exact hJ₅
                · intro q hq
                  rcases List.mem_cons.mp hq with rfl | hq
                  · exact Nat.ne_of_gt (l₉ _ List.mem_cons_self)
                  · exact hIN q hq
                · rfl
            · rintro f s' ⟨rfl, h₄, tk₄, m₄, Du, dz, cd, due, news₄, rfl, F₅, hR₄, hK₄, hJ₄, hD₄, N₅, hs₄, hDm, hdz, hcols⟩
              dsimp only
              clear F₄ N₄
              iterate 7 walk1
              refine nameX_L F₅ hR₄ ?_
              walk1
              refine nameX_L F₅ hJ₄ ?_
              iterate 2 walk1
              have hRm₄ := hs₄ _ hRm
              k_dflt (refine' sorted_call (keys := keys) (b := b) hko 23 rows _ _ _ _ _ _ _ _ _ _ _ _ _ _ news₃ news₄ _ _ _ zs c _ _ ?sb1 ?sb2 ?sb3 ?sb4 ?sb5 ?sb6 ?sb7 ?sb8 ?sb9 ?sb10 ?sb11 ?sb12 ?sb13 ?sb14 ?sb15 ?sb16)
              case sb1 => exact B
              case sb2 => exact F₅
              case sb3 => exact X
              case sb4 => exact N₅
              case sb5 => exact T
              case sb6 => exact rfl
              case sb7 => exact Nat.le_of_ble_eq_true rfl
              case sb8 => exact Nat.le_of_ble_eq_true rfl
              case sb9 => exact hr24
              case sb10 => exact hr24
              case sb11 => exact hs₄
              case sb12 => exact JU
              case sb13 => exact hRm₄
              case sb14 => exact hzs.mono hdl
              case sb15 => exact hrk
              case sb16 =>
              intro D₆ z₆ c₆ tl h₆ tk₆ F₆ N₆ l₆ hD₆ hz₆
              refine nameX_L F₆ hD₄ ?_
              have hsort : sortF keys 23 rows = due := sort_eq_cols ⟨hr0, hr24, hrk, hrp⟩ hko hcols
              rw [hsort] at hz₆
              have hs₆ : ∀ q ∈ news₃, q ∈ tl ++ news₄ := fun q hq => List.mem_append_right _ (hs₄ q hq)
              have hdrk : ∀ r ∈ due, RowK b r := fun r hr => hrk r ((colsOut_perm hcols).mem_iff.mp hr)
              refine dat_ne N₆ (.list hD₆ (hz₆.mono hs₆)) (.list (List.mem_append_right _ hDm) (hdz.mono fun q hq => hs₆ q (hdl q hq))) (fun _ h => h) (list_ok hdrk) (list_ok hdrk) (Nat.le_of_ble_eq_true rfl) ?_
              simp only [decide_true, Bool.not_true]
              refine wpAny_truthy_bool ?_
              clear F₅ N₅
              iterate 3 walk1
              have hsub₀ : ∀ q ∈ news₀, q ∈ tl ++ news₄ := fun q hq => hs₆ _ (hs₃ _ (by rw [hnews₂, hnews₁]; exact List.mem_cons_of_mem _ (List.mem_append_right _ (List.mem_cons_of_mem _ (List.mem_append_right _ hq)))))
              have hn1 : (s₁.heap.objs.size + 1 + 1 + 1 + 1, k1) ∈ tl ++ news₄ := hsub₀ _ (by rw [hnews]; simp)
              have hn2 : (s₁.heap.objs.size + 1 + 1 + 1, k2) ∈ tl ++ news₄ := hsub₀ _ (by rw [hnews]; simp)
              have N₇ := strip_news N₆ hn1 hn2
              have off1 := strip_off N₆ hn1 dk1
              have off2 := strip_off N₆ hn2 dk2
              have hRr : (R, listOf (List.toArray zs) c) ∈ strip (tl ++ news₄) := strip_mem (hs₆ _ hRm) rfl
              have hKr : (Kd, listOf (List.toArray ks) ck) ∈ strip (tl ++ news₄) := strip_mem (hs₆ _ hKm) rfl
              have JUr : JudgeIn w (strip (tl ++ news₄)) (.ref Jv) keys := judge_strip (JU.mono hs₆)
              have hzr : DatAll (strip (tl ++ news₄)) zs rows := datAll_strip (hzs.mono fun q hq => hs₆ _ (hdl q hq))
              have hkr : DatAll (strip (tl ++ news₄)) ks (keys.map keyD) := datAll_strip (hks.mono fun q hq => hs₆ _ (hkl q hq))
              have hTr : (56, tabObj ps) ∈ strip (tl ++ news₄) := strip_mem (hsub₀ _ (by rw [hnews]; simp)) rfl
              generalize hrest : strip (tl ++ news₄) = rest at N₇ off1 off2 hTr hRr hKr JUr hzr hkr
              clear N₆ hD₄
              refine wpAny_mono (Q := fun f s' => f = .next ∧ ∃ h tk m' kR kL, s' = { s₁ with heap := h, toks := tk } ∧ Fr (ghostOf s₁.heap [(58, 56)]) s₁.heap.objs.size h m' ∧ m' (Str.ofString "rows") = some (.ref R) ∧ News (ghostOf s₁.heap [(58, 56)]) s₁.heap.objs.size h ((s₁.heap.objs.size + 1 + 1 + 1 + 1, kR) :: (s₁.heap.objs.size + 1 + 1 + 1, kL) :: rest)) (E := fun _ _ => False) ?_ ?_ (fun _ _ h => h.elim)
              · refine For_turns F₆ ?_ (fun _ => rfl)
                refine nameX_L F₆ hR₄ ?_
                refine iter_listTurns (lo := listOf (List.toArray zs) c) rfl F₆ N₇ (List.mem_cons_of_mem _ (List.mem_cons_of_mem _ hRr)) rfl rfl (fun I hI => ?_)
                have hI1 : s₁.heap.objs.size + 1 + 1 + 1 + 1 ≠ I := Nat.ne_of_lt (hI _ List.mem_cons_self)
                have hI2 : s₁.heap.objs.size + 1 + 1 + 1 ≠ I := Nat.ne_of_lt (hI _ (List.mem_cons_of_mem _ List.mem_cons_self))
                have hIr : ∀ q ∈ rest, q.1 ≠ I := fun q hq => Nat.ne_of_lt (hI q (List.mem_cons_of_mem _ (List.mem_cons_of_mem _ hq)))
                clear hI F₆ N₇
                obtain ⟨vs, hvs⟩ : ∃ vs, vs = zs := ⟨_, rfl⟩
                obtain ⟨rs, hrs⟩ : ∃ rs, rs = rows := ⟨_, rfl⟩
                have hvd : DatAll rest vs rs := by rw [hvs, hrs]; exact hzr
                have hrsub : ∀ r ∈ rs, r ∈ rows := by rw [hrs]; exact fun _ h => h
                rw [show zs.map Itm.val = vs.map Itm.val by rw [hvs]]
                obtain ⟨kR, kL, xR, xL, hxR, hxL, e1, e2⟩ : ∃ kR kL xR xL, kR.data = .cell xR ∧ kL.data = .cell xL ∧ k1 = kR ∧ k2 = kL := ⟨_, _, _, _, dk1, dk2, rfl, rfl⟩
                rw [e1, e2]
                clear hvs hrs e1 e2
                induction vs generalizing rs m₄ kR kL xR xL with
                | nil =>
                  cases hvd
                  refine ItemsRest.zero ?_
                  intro h₇ tk₇ F₇ N₇
                  exact ⟨rfl, h₇, tk₇, m₄, kR, kL, rfl, F₇, hR₄, N₇⟩
                | cons lv vs ih =>
                  cases hvd with
                  | @cons _ _ lr rs hlv hvd =>
                  refine ItemsRest.val (fun h₇ tk₇ F₇ => AllObj.cons (fun o₇ ho₇ => AllObj.nil (fun N₇ => ?_)))
                  replace F₇ : Fr (ghostOf s₁.heap [(58, 56)]) s₁.heap.objs.size h₇ m₄ := F₇
                  replace N₇ : News (ghostOf s₁.heap [(58, 56)]) s₁.heap.objs.size h₇ ((I, o₇) :: (s₁.heap.objs.size + 1 + 1 + 1 + 1, kR) :: (s₁.heap.objs.size + 1 + 1 + 1, kL) :: rest) := N₇
                  iterate 1 walk1
                  refine storeX_C F₇ N₇ rfl (UpdF.tail (Ne.symm hI2) (UpdF.tail (Nat.succ_ne_self _) (UpdF.head off2))) hxL (fun h₈ oL F₈ N₈ dL => ?_)
                  replace N₈ : News (ghostOf s₁.heap [(58, 56)]) s₁.heap.objs.size h₈ ((I, o₇) :: (s₁.heap.objs.size + 1 + 1 + 1 + 1, kR) :: (s₁.heap.objs.size + 1 + 1 + 1, oL) :: rest) := N₈
                  clear F₇ N₇
                  iterate 1 walk1
                  refine wpAny_mono (Q := fun f s' => f = .next ∧ ∃ h tk m' kR xR, s' = { s₁ with heap := h, toks := tk } ∧ Fr (ghostOf s₁.heap [(58, 56)]) s₁.heap.objs.size h m' ∧ m' (Str.ofString "rows") = some (.ref R) ∧ m' (Str.ofString "keys") = some (.ref Kd) ∧ m' (Str.ofString "judge") = some (.ref Jv) ∧ kR.data = .cell xR ∧ News (ghostOf s₁.heap [(58, 56)]) s₁.heap.objs.size h ((I, o₇) :: (s₁.heap.objs.size + 1 + 1 + 1 + 1, kR) :: (s₁.heap.objs.size + 1 + 1 + 1, oL) :: rest)) (E := fun _ _ => False) ?_ ?_ (fun _ _ h => h.elim)
                  · refine For_turns F₈ ?_ (fun _ => rfl)
                    refine nameX_L F₈ hR₄ ?_
                    refine iter_listTurns (lo := listOf (List.toArray zs) c) rfl F₈ N₈ (List.mem_cons_of_mem _ (List.mem_cons_of_mem _ (List.mem_cons_of_mem _ hRr))) rfl rfl (fun I₂ hI₂ => ?_)
                    have hJ0 : I ≠ I₂ := Nat.ne_of_lt (hI₂ _ List.mem_cons_self)
                    have hJ1 : s₁.heap.objs.size + 1 + 1 + 1 + 1 ≠ I₂ := Nat.ne_of_lt (hI₂ _ (List.mem_cons_of_mem _ List.mem_cons_self))
                    have hJ2 : s₁.heap.objs.size + 1 + 1 + 1 ≠ I₂ := Nat.ne_of_lt (hI₂ _ (List.mem_cons_of_mem _ (List.mem_cons_of_mem _ List.mem_cons_self)))
                    have hJr : ∀ q ∈ rest, q.1 ≠ I₂ := fun q hq => Nat.ne_of_lt (hI₂ q (List.mem_cons_of_mem _ (List.mem_cons_of_mem _ (List.mem_cons_of_mem _ hq))))
                    clear hI₂ F₈ N₈ ih
                    have hlr := hrsub lr List.mem_cons_self
                    have hlrk := hrk lr hlr
                    obtain ⟨us, hus⟩ : ∃ us, us = zs := ⟨_, rfl⟩
                    obtain ⟨ts, hts⟩ : ∃ ts, ts = rows := ⟨_, rfl⟩
                    have hud : DatAll rest us ts := by rw [hus, hts]; exact hzr
                    have htsub : ∀ r ∈ ts, r ∈ rows := by rw [hts]; exact fun _ h => h
                    rw [show zs.map Itm.val = us.map Itm.val by rw [hus]]
                    clear hus hts
                    induction us generalizing ts m₄ kR xR with
                    | nil =>
                      cases hud
                      refine ItemsRest.zero ?_
                      intro h₉ tk₉ F₉ N₉
                      exact ⟨rfl, h₉, tk₉, m₄, kR, xR, rfl, F₉, hR₄, hK₄, hJ₄, hxR, N₉⟩
                    | cons rv us ih =>
                      cases hud with
                      | @cons _ _ rr ts hrv hud =>
                      refine ItemsRest.val (fun h₉ tk₉ F₉ => AllObj.cons (fun o₉ ho₉ => AllObj.nil (fun N₉ => ?_)))
                      replace F₉ : Fr (ghostOf s₁.heap [(58, 56)]) s₁.heap.objs.size h₉ m₄ := F₉
                      replace N₉ : News (ghostOf s₁.heap [(58, 56)]) s₁.heap.objs.size h₉ ((I₂, o₉) :: (I, o₇) :: (s₁.heap.objs.size + 1 + 1 + 1 + 1, kR) :: (s₁.heap.objs.size + 1 + 1 + 1, oL) :: rest) := N₉
                      iterate 1 walk1
                      refine storeX_C F₉ N₉ rfl (UpdF.tail (Ne.symm hJ1) (UpdF.tail (Ne.symm hI1) (UpdF.head (fun q hq => by rcases List.mem_cons.mp hq with rfl | hq; exact Nat.ne_of_lt (Nat.lt_succ_self _); exact off1 q hq)))) hxR (fun h₁₀ oR F₁₀ N₁₀ dR => ?_)
                      replace N₁₀ : News (ghostOf s₁.heap [(58, 56)]) s₁.heap.objs.size h₁₀ ((I₂, o₉) :: (I, o₇) :: (s₁.heap.objs.size + 1 + 1 + 1 + 1, oR) :: (s₁.heap.objs.size + 1 + 1 + 1, oL) :: rest) := N₁₀
                      clear F₉ N₉
                      have hrrk := hrk rr (htsub rr List.mem_cons_self)
                      obtain ⟨nsX, hnsX, hnI, hnR, hnL, hnr⟩ : ∃ l : List (Addr × Obj), l = (I₂, o₉) :: (I, o₇) :: (s₁.heap.objs.size + 1 + 1 + 1 + 1, oR) :: (s₁.heap.objs.size + 1 + 1 + 1, oL) :: rest ∧ (I₂, o₉) ∈ l ∧ (s₁.heap.objs.size + 1 + 1 + 1 + 1, oR) ∈ l ∧ (s₁.heap.objs.size + 1 + 1 + 1, oL) ∈ l ∧ ∀ q ∈ rest, q ∈ l := ⟨_, rfl, by simp, by simp, by simp, fun q hq => by simp [hq]⟩
                      rw [← hnsX] at N₁₀
                      obtain ⟨j, dj, tj, tkj, ej, hj1, hj2⟩ := JUr.inst
                      cases ej
                      replace hj1 := hnr _ hj1
                      replace hj2 := hnr _ hj2
                      iterate 3 walk1
                      refine nameX_L F₁₀ hJ₄ ?_
                      k_dflt (refine' method_inst (f := 35) F₁₀ X (InstAt.of_news N₁₀ hj1 hj2) ?m1 ?m2 ?m3 ?m4 ?_)
                      case m1 => k_is
                      case m2 => k_is
                      case m3 => k_is
                      case m4 => k_get
                      iterate 2 walk1
                      refine nameX_C N₁₀ rfl hnL dL ?_
                      walk1
                      refine nameX_C N₁₀ rfl hnR dR ?_
                      iterate 2 walk1
                      k_dflt (refine' compare_call (b := b) (keys := keys) (l := lr) (r := rr) _ _ _ _ _ _ _ _ _ _ _ _ _ _ _ _ ?pb1 ?pb2 ?pb3 ?pb4 ?pb5 ?pb6 ?pb7 ?pb8 ?pb9 ?pb10 ?pb11 hlrk hrrk hko ?pb12)
                      case pb1 => exact B
                      case pb2 => exact F₁₀
                      case pb3 => exact X
                      case pb4 => exact N₁₀
                      case pb5 => exact T
                      case pb6 => exact rfl
                      case pb7 => exact Nat.le_of_ble_eq_true rfl
                      case pb8 => exact Nat.le_of_ble_eq_true rfl
                      case pb9 => exact JUr.mono hnr
                      case pb10 => exact hlv.mono hnr
                      case pb11 => exact hrv.mono hnr
                      case pb12 =>
                      intro tc h₁₁ tk₁₁ F₁₁ N₁₁
                      clear F₁₀ N₁₀
                      iterate 2 walk1
                      rename Fr _ _ _ _ => F₁₂
                      rename News _ _ _ _ => N₁₂
                      iterate 7 walk1
                      classical
                      refine comp_pairs (dl := rest) (keys := keys) (us := ks) (n := ck) (fun k => !decide (cellD lr k.1 = cellD rr k.1)) rfl rfl rfl (by decide) (by decide) (by with_unfolding_all rfl) (by decide) rfl (by decide) (fun _ => rfl) F₁₂ N₁₂ (hnr _ hKr) hnr hkr (by omega) (fun _ _ _ => Around.under_of_weight rfl rfl) ?_ ?_ ?_
                      · intro Q' hQ
                        exact nameX_L F₁₂ hK₄ hQ
                      · intro k hk t C oC mC rest' s' Q' E' hC hmx N' hs' hQ
                        have hdC : ∀ q ∈ rest, q ∈ (C, oC) :: rest' := fun q hq => List.mem_cons_of_mem _ (hs' _ (hnr q hq))
                        refine wpAny_isTrue_Compare1 (Subscript_ ?_)
                        refine kcf_cell N' rfl (List.mem_cons_of_mem _ (hs' _ hnL)) dL ?_
                        refine name_C rfl rfl N' hC hmx ?_
                        refine row_item N' hlv hdC hlrk (hko k hk).1 (fun c1 hc1 => ?_)
                        refine Subscript_ ?_
                        refine kcf_cell N' rfl (List.mem_cons_of_mem _ (hs' _ hnR)) dR ?_
                        refine name_C rfl rfl N' hC hmx ?_
                        refine row_item N' hrv hdC hrrk (hko k hk).1 (fun c2 hc2 => ?_)
                        refine dat_ne N' hc1 hc2 hdC (row_ok hlrk (hko k hk)) (row_ok hrrk (hko k hk)) (Nat.le_of_ble_eq_true rfl) ?_
                        exact wpAny_truthy_bool hQ
                      · intro D₁₃ z₁₃ h₁₃ tk₁₃ F₁₃ N₁₃ l₁₃ hlen₁₃
                        iterate 1 walk1
                        have hz13 : z₁₃.length ≤ 3 := by rw [hlen₁₃]; exact Nat.le_trans (List.length_filter_le _ _) hk3
                        refine len_list (News.isList N₁₃ List.mem_cons_self) (by rw [List.size_toArray]; omega) ?_
                        clear F₁₂ N₁₂
                        iterate 5 walk1
                        rename Fr _ _ _ _ => F₁₄
                        rename News _ _ _ _ => N₁₄
                        have hAl : ((z₁₃.toArray.size : Int) == 0) = decide (cmpD keys lr rr = 0) := alike_eq hlrk hrrk hko (by rw [List.size_toArray, hlen₁₃])
                        rw [hAl] at F₁₄
                        have htold := cmp_vals (l := lr) (r := rr) hko
                        have hanti := cmp_anti hlrk hrrk hko
                        generalize cmpD keys lr rr = cv at F₁₄ htold hanti
                        iterate 3 walk1
                        refine nameX_L F₁₄ rfl ?_
                        iterate 10 walk1
                        refine kup_newTuple F₁₄ N₁₄ (fun D₁₅ h₁₅ F₁₅ N₁₅ l₁₅ => ?_) (show 3 ≤ sizeLine by decide)
                        refine notin_tuple_ints (News.isTup N₁₅ List.mem_cons_self) (ns := [-1, 0, 1]) (.cons _ _ (.cons _ _ (.cons _ _ .nil))) ?_
                        have hni : (!([-1, 0, 1] : List Int).any fun x => x == cv) = false := by rcases htold with e | e | e <;> rw [e] <;> rfl
                        rw [hni]
                        refine wpAny_truthy_bool ?_
                        iterate 4 walk1
                        refine nameX_L F₁₅ rfl ?_
                        iterate 2 walk1
                        refine nameX_L F₁₅ rfl ?_
                        iterate 1 walk1
                        rw [is_alike]
                        refine wpAny_truthy_bool ?_
                        iterate 4 walk1
                        refine nameX_L F₁₅ hJ₄ ?_
                        obtain ⟨ns5, N5, hX5⟩ : ∃ l, News (ghostOf s₁.heap [(58, 56)]) s₁.heap.objs.size h₁₅ l ∧ ∀ q ∈ nsX, q ∈ l := ⟨_, N₁₅, fun q hq => List.mem_cons_of_mem _ (List.mem_cons_of_mem _ hq)⟩
                        clear N₁₅
                        k_dflt (refine' method_inst (f := 35) F₁₅ X (InstAt.of_news N5 (hX5 _ hj1) (hX5 _ hj2)) ?w1 ?w2 ?w3 ?w4 ?_)
                        case w1 => k_is
                        case w2 => k_is
                        case w3 => k_is
                        case w4 => k_get
                        iterate 2 walk1
                        refine nameX_C N5 rfl (hX5 _ hnR) dR ?_
                        walk1
                        refine nameX_C N5 rfl (hX5 _ hnL) dL ?_
                        iterate 2 walk1
                        k_dflt (refine' compare_call (b := b) (keys := keys) (l := rr) (r := lr) _ _ _ _ _ _ _ _ _ _ _ _ _ _ _ _ ?pc1 ?pc2 ?pc3 ?pc4 ?pc5 ?pc6 ?pc7 ?pc8 ?pc9 ?pc10 ?pc11 hrrk hlrk hko ?pc12)
                        case pc1 => exact B
                        case pc2 => exact F₁₅
                        case pc3 => exact X
                        case pc4 => exact N5
                        case pc5 => exact T
                        case pc6 => exact rfl
                        case pc7 => exact Nat.le_of_ble_eq_true rfl
                        case pc8 => exact Nat.le_of_ble_eq_true rfl
                        case pc9 => exact JUr.mono fun q hq => hX5 q (hnr q hq)
                        case pc10 => exact hrv.mono fun q hq => hX5 q (hnr q hq)
                        case pc11 => exact hlv.mono fun q hq => hX5 q (hnr q hq)
                        case pc12 =>
                        intro td h₁₆ tk₁₆ F₁₆ N₁₆
                        rw [hanti]
                        clear F₁₅ N5
                        iterate 1 walk1
                        refine nameX_L F₁₆ rfl ?_
                        iterate 2 walk1
                        rw [bne_self_eq_false]
                        refine wpAny_truthy_bool ?_
                        iterate 7 walk1
                        refine ⟨_, _, _, (I, o₇) :: (s₁.heap.objs.size + 1 + 1 + 1 + 1, oR) :: (s₁.heap.objs.size + 1 + 1 + 1, oL) :: rest, rfl, F₁₆, fun q hq => N₁₆ q (hX5 q (by rw [hnsX]; exact hq)), ?_, ⟨List.mem_cons_of_mem _ (List.mem_cons_of_mem _ (List.mem_cons_of_mem _ hRr)), trivial⟩, ih _ ?_ ?_ ?_ oR _ dR ts hud (fun r hr => htsub r (List.mem_cons_of_mem _ hr))⟩
                        · intro p hp q hq
                          rw [List.mem_singleton.mp hq]
                          rcases List.mem_cons.mp hp with rfl | hp
                          · exact hJ0
                          · rcases List.mem_cons.mp hp with rfl | hp
                            · exact hJ1
                            · rcases List.mem_cons.mp hp with rfl | hp
                              · exact hJ2
                              · exact hJr p hp
                        · exact hR₄
                        · exact hK₄
                        · exact hJ₄
                  · rintro f s' ⟨rfl, h₉, tk₉, m₉, kR', xR', rfl, F₉, hR₉, hK₉, hJ₉, hxR', N₉⟩
                    dsimp only
                    iterate 2 walk1
                    refine ⟨_, _, _, (s₁.heap.objs.size + 1 + 1 + 1 + 1, kR') :: (s₁.heap.objs.size + 1 + 1 + 1, oL) :: rest, rfl, F₉, N₉, ?_, ⟨List.mem_cons_of_mem _ (List.mem_cons_of_mem _ hRr), trivial⟩, ih _ ?_ ?_ ?_ rs hvd (fun r hr => hrsub r (List.mem_cons_of_mem _ hr)) kR' oL _ _ hxR' dL⟩
                    · intro p hp q hq
                      rw [List.mem_singleton.mp hq]
                      rcases List.mem_cons.mp hp with rfl | hp
                      · exact hI1
                      · rcases List.mem_cons.mp hp with rfl | hp
                        · exact hI2
                        · exact hIr p hp
                    · exact hR₉
                    · exact hK₉
                    · exact hJ₉
              · rintro f s' ⟨rfl, h₉, tk₉, m₉, kR', kL', rfl, F₉, hR₉, N₉⟩
                dsimp only
                clear F₆ N₇
                iterate 4 walk1
                iterate 7 walk1
                iterate 8 walk1
                iterate 4 (first | (k_unfold; (try dsimp only)) | walk1 | (dsimp only; walk1) | (leave1; walk_say "STEP leave1"; try dsimp only) | fail "no step")
                rename Fr _ _ _ _ => F₁₀
                rename News _ _ _ _ => N₁₀
                k_dflt (refine' method_inst (f := 35) F₁₀ X (InstAt.of_news N₁₀ List.mem_cons_self (List.mem_cons_of_mem _ List.mem_cons_self)) ?v1 ?v2 ?v3 ?v4 ?_)
                case v1 => k_is
                case v2 => k_is
                case v3 => k_is
                case v4 => k_get
                iterate 3 walk1
                refine nameX_L F₁₀ hR₉ ?_
                iterate 1 walk1
                have hRl := fun (a b c d e : Addr × Obj) => List.mem_cons_of_mem a (List.mem_cons_of_mem b (List.mem_cons_of_mem c (List.mem_cons_of_mem d (List.mem_cons_of_mem e hRr))))
                have hrl := fun (a b c d e : Addr × Obj) (q : Addr × Obj) (hq : q ∈ rest) => List.mem_cons_of_mem a (List.mem_cons_of_mem b (List.mem_cons_of_mem c (List.mem_cons_of_mem d (List.mem_cons_of_mem e hq))))
                refine dat_first N₁₀ (hRl _ _ _ _ _) hzr hr0 (fun x0 d0 hx0 hd0 => ?_)
                iterate 2 walk1
                refine nameX_L F₁₀ hR₉ ?_
                iterate 3 walk1
                refine dat_last N₁₀ (hRl _ _ _ _ _) hzr hr0 (fun x1 d1 hx1 hd1 => ?_)
                iterate 2 walk1
                k_dflt (refine' compare_call (b := b) (keys := []) (l := d0) (r := d1) _ _ _ _ _ _ _ _ _ _ _ _ _ _ _ _ ?pe1 ?pe2 ?pe3 ?pe4 ?pe5 ?pe6 ?pe7 ?pe8 ?pe9 ?pe10 ?pe11 (hrk _ hd0) (hrk _ hd1) (fun _ h => (nomatch h)) ?pe12)
                case pe1 => exact B
                case pe2 => exact F₁₀
                case pe3 => exact X
                case pe4 => exact N₁₀
                case pe5 => exact T
                case pe6 => exact rfl
                case pe7 => exact Nat.le_of_ble_eq_true rfl
                case pe8 => exact Nat.le_of_ble_eq_true rfl
                case pe9 => exact .mk (n := 0) (vs := []) List.mem_cons_self (List.mem_cons_of_mem _ List.mem_cons_self) (List.mem_cons_of_mem _ (List.mem_cons_of_mem _ List.mem_cons_self)) .nil
                case pe10 => exact hx0.mono (hrl _ _ _ _ _)
                case pe11 => exact hx1.mono (hrl _ _ _ _ _)
                case pe12 =>
                intro te h₁₁ tk₁₁ F₁₁ N₁₁
                iterate 2 walk1
                refine ⟨rfl, _, _, _, ps, rfl, F₁₁, fun q hq => ?_⟩
                rw [List.mem_singleton.mp hq]
                exact N₁₁ _ (hrl _ _ _ _ _ _ hTr)
  · rintro f s' ⟨rfl, h, tk, m', ps, rfl, F, N⟩
    dsimp only
    refine ⟨?_, GrownAt.of N List.mem_cons_self, trivial⟩
    clear NX FX
    k_end
    wrow_close)
end Mine
end
theorem PySem.Challenge.cw_dz0085_01_holds : PySem.Challenge.rw_dz0085_01.Holds :=
  Mine.the_law
