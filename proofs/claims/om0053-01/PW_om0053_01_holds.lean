import PyProof.Rows.All
import Wide.All
import OpenK.AllK
import Wide.FinOn
import PyProof.WalkLemmas
import PyProof.ObjNew
import PyProof.InstStoreFacts
import KE.KSortAsk
import KE.KLcPair
import PySem.Challenge.RW_om0053_01
section
open PySem PySem.W PySem.W.X PyProof.Rows
set_option Elab.async false
namespace Mine
local macro_rules | `(tactic| k_head) => `(tactic| x_head)
noncomputable abbrev LS0 : List Str := [Str.ofString "_initial_missing", Str.ofString "reduce", Str.ofString "_filemode_table"]
/-- what the view keeps: all but the modules' own names and the def with a default -/
noncomputable def keepSt : Stmt → Bool
  | .Assign (.Name x _ :: _) _ _ => !(x == Str.ofString "__name__")
  | .FunctionDef x _ _ _ _ _ _ _ _ _ => !(x == Str.ofString "reduce")
  | _ => true
noncomputable def myView : Program := { PySem.Challenge.pw_om0053_01 with main := { PySem.Challenge.pw_om0053_01.main with body := PySem.Challenge.pw_om0053_01.main.body.filter keepSt } }
noncomputable def tabRow (l : List (Int × Nat)) : WData := .tuple (l.map fun p => .tuple [.int p.1, .str ⟨#[p.2]⟩])
noncomputable def myLV : List (Str × WData) := [(Str.ofString "_filemode_table", .tuple [tabRow [(40960, 108), (49152, 115), (32768, 45), (24576, 98), (16384, 100), (8192, 99), (4096, 112)], tabRow [(256, 114)], tabRow [(128, 119)], tabRow [(2112, 115), (2048, 83), (64, 120)],
  tabRow [(32, 114)], tabRow [(16, 119)], tabRow [(1032, 115), (1024, 83), (8, 120)], tabRow [(4, 114)], tabRow [(2, 119)], tabRow [(513, 116), (512, 84), (1, 120)]])]
set_option hygiene false in
local macro_rules | `(tactic| o_head $H) => `(tactic| (refine holds_open (q := Mine.myView) (loose := Mine.LS0) (Xt := fun s => xlAt Mine.myView Mine.myLV s && recOk (RowW.records (OpenRow.toRowW (OpenLaw.row PySem.Challenge.rw_om0053_01))) s) (XP := XL Mine.myView Mine.myLV) (Yf := Hook.obs $H) (Ya := Hook.val $H) (YP := Hook.says $H) (N := 1828) ?hl (Hook.of $H) (Hook.keeps $H) (fun s e => xl_of s (Bool.and_eq_true_iff.mp e).1) XL.keeps (by rfl) (by rfl) (by rfl) (fun s e => recFacts_of (Bool.and_eq_true_iff.mp e).2) (by rfl) (by first | assumption | decide +kernel) (by decide +kernel) ⟨rfl, rfl, rfl, rfl, rfl, by decide +kernel⟩ ?hw ?hc; (case hl => (intro w; kernel_rfl))))
set_option maxRecDepth 100000 in
set_option maxHeartbeats 0 in
/-- the law is well said, look by look (the line's own road lays a twin of the whole text) -/
theorem said0 : OpenLaw.wellSaid PySem.Challenge.rw_om0053_01 = true := by
  delta OpenLaw.wellSaid OpenRow.wellSaid OpenRow.partSaid looksOpen
  repeat' (with_reducible refine look_both ?_ ?_)
  all_goals decide +kernel
local macro_rules | `(tactic| o_law) => `(tactic| refine holds_law Mine.said0 fun said => ?_)
set_option maxRecDepth 100000 in
set_option maxHeartbeats 0 in
open_top hd for PySem.Challenge.rw_om0053_01
end Mine

end
section
open PySem PySem.W PySem.Calls PyProof.Rows
set_option Elab.async false
set_option linter.unusedVariables false
namespace Mine
set_option maxRecDepth 100000 in
/-- the written part without the code table of cmp_to_key (37), which grows at its call -/
noncomputable def K2 : Params → Frag := fun p => (fun (a0 a1 a2 a3 a4 a5 a6 a7 a8 a9 a10 a11 a12 a13 a14 a15 a16 a17 a18 a19 a20 a21 a22 a23 a24 a25 a26 a27 a28 a29 a30 a31 a32 a33 a34 a35 a36 a37 : Nat × Obj) (r : Frag) (_ : Mine.hd.heap_1 p = a0 :: a1 :: a2 :: a3 :: a4 :: a5 :: a6 :: a7 :: a8 :: a9 :: a10 :: a11 :: a12 :: a13 :: a14 :: a15 :: a16 :: a17 :: a18 :: a19 :: a20 :: a21 :: a22 :: a23 :: a24 :: a25 :: a26 :: a27 :: a28 :: a29 :: a30 :: a31 :: a32 :: a33 :: a34 :: a35 :: a36 :: a37 :: r) => (a0 :: a1 :: a2 :: a3 :: a4 :: a5 :: a6 :: a7 :: a8 :: a9 :: a10 :: a11 :: a12 :: a13 :: a14 :: a15 :: a16 :: a17 :: a18 :: a19 :: a20 :: a21 :: a22 :: a23 :: a24 :: a25 :: a26 :: a27 :: a28 :: a29 :: a30 :: a31 :: a32 :: a33 :: a34 :: a35 :: a36 :: r : List (Nat × Obj))) _ _ _ _ _ _ _ _ _ _ _ _ _ _ _ _ _ _ _ _ _ _ _ _ _ _ _ _ _ _ _ _ _ _ _ _ _ _ _ rfl
theorem lookup_drop {K : List (Nat × Obj)} {k a : Nat} {x o : Obj} : ∀ (pre r : List (Nat × Obj)), ((pre ++ r).all fun q => q.1 != k) = true → (pre ++ r).lookup a = some o → (pre ++ (k, x) :: r).lookup a = some o
  | [], r, hn, h => by
    rw [List.nil_append] at h hn ⊢
    by_cases e : a = k
    · subst e
      exfalso
      clear x K
      induction r with
      | nil => cases h
      | cons q r ih =>
        rw [List.all_cons, Bool.and_eq_true] at hn
        obtain ⟨q1, q2⟩ := q
        rw [List.lookup_cons] at h
        have : (a == q1) = false := by
          have h1 := hn.1
          simp only [bne_iff_ne, ne_eq] at h1
          exact beq_eq_false_iff_ne.mpr fun z => h1 z.symm
        rw [this] at h
        exact ih h hn.2
    · rw [List.lookup_cons, beq_eq_false_iff_ne.mpr e]; exact h
  | q :: pre, r, hn, h => by
    obtain ⟨q1, q2⟩ := q
    rw [List.cons_append, List.all_cons, Bool.and_eq_true] at hn
    rw [List.cons_append, List.lookup_cons] at h ⊢
    cases z : a == q1 with
    | true => rw [z] at h; exact h
    | false => rw [z] at h; exact lookup_drop (K := K) pre r hn.2 h
set_option maxRecDepth 100000 in
theorem K2_sub (p : Params) (a : Nat) (o : Obj) (h : (K2 p).lookup a = some o) : (Mine.hd.heap_1 p).lookup a = some o :=
  lookup_drop (K := []) (k := 37) ((Mine.hd.heap_1 p).take 37) ((Mine.hd.heap_1 p).drop 38) (by kernel_rfl) h
theorem K2_in {p : Params} {h : Heap} (X : (Mine.hd.heap_1 p).In h) : (K2 p).In h := fun a o e => X a o (K2_sub p a o e)
end Mine

end
section
open PySem PySem.W PySem.Calls PyProof.Rows
set_option Elab.async false
set_option linter.unusedVariables false
namespace Mine
noncomputable abbrev LS : List Str := [Str.ofString "_initial_missing", Str.ofString "reduce", Str.ofString "_filemode_table"]
@[reducible] noncomputable def AA (k : Nat) : Around := { handled := none, depth := 400 + 20 * k, frames := none, guards := none, units := 500 + 300 * k }
theorem AA_mono {M : Model} {α : Type} {A : Around} {t : Sem α} {Q : α → Shared → Prop} {E : Value → Shared → Prop} {s : Shared} (k : Nat) (h : wpAny M (AA k) t Q E s)
    (hh : A.handled = none) (hd : A.depth ≤ 400 + 20 * k) (hu : A.units ≤ 500 + 300 * k) : wpAny M A t Q E s := fun Γ p hΓ =>
  h Γ p ⟨hΓ.1.trans hh, Nat.le_trans hΓ.2.1 hd, fun l hl => (nomatch hl), fun g hg => (nomatch hg), Nat.le_trans hΓ.2.2.2.2 hu⟩
/-- the heap keeps -/
noncomputable abbrev Kp (h h' : Heap) : Prop := ∀ b o, h.get? b = some o → h'.get? b = some o
/-- the generators left behind want no cleaning up -/
noncomputable abbrev GOk (a b : Array GenState) : Prop := AllBare a → AllBare b
theorem GOk.refl (a : Array GenState) : GOk a a := fun h => h
theorem GOk.trans {a b c : Array GenState} (x : GOk a b) (y : GOk b c) : GOk a c := fun h => y (x h)
/-- a contract of the def at f -/
noncomputable def Spec (w : World) (mg mb : Str → Option Value) (k : Nat) (f : Addr) (args : List Value) (pre : Heap → Prop) (post : Heap → Value → Heap → Prop) : Prop :=
  ∀ (s : Shared) (Q E : Value → Shared → Prop), (Mine.K2 w.params).In s.heap → TopRead Mine.myView LS mg mb s.heap → pre s.heap →
    (∀ (v : Value) (h' : Heap) (tk : Nat) (g' : Array GenState), Kp s.heap h' → GOk s.gens g' → post s.heap v h' → Q v { s with heap := h', toks := tk, gens := g' }) →
    wpAny (model PySem.Challenge.rw_om0053_01.prog w) (AA k) (call (.ref f) args) Q E s
theorem Spec.use {w : World} {mg mb : Str → Option Value} {k : Nat} {f : Addr} {args : List Value} {pre : Heap → Prop} {post : Heap → Value → Heap → Prop} (S : Spec w mg mb k f args pre post)
    {A : Around} {s : Shared} {Q E : Value → Shared → Prop} {h₀ : Heap} {L : Addr} {m : Str → Option Value} {news : List (Addr × Obj)}
    (F : Fr h₀ L s.heap m) (N : News h₀ L s.heap news) (X : (Mine.K2 w.params).In h₀) (T : TopRead Mine.myView LS mg mb h₀) (hp : pre s.heap)
    (hh : A.handled = none) (hd : A.depth ≤ 400 + 20 * k) (hu : A.units ≤ 500 + 300 * k)
    (h : ∀ (v : Value) (h' : Heap) (tk : Nat) (g' : Array GenState), Kp s.heap h' → GOk s.gens g' → post s.heap v h' → Fr h₀ L h' m → News h₀ L h' news → Q v { s with heap := h', toks := tk, gens := g' }) :
    wpAny (model PySem.Challenge.rw_om0053_01.prog w) A (call (.ref f) args) Q E s :=
  AA_mono k (S s Q E (X.keeps F.keep) (T.keeps F.keep) hp fun v h' tk g' kp go po => h v h' tk g' kp go po (F.grownK kp) (N.grown kp)) hh hd hu
theorem isList_of_news {h₀ h : Heap} {L a : Addr} {news : List (Addr × Obj)} {its : Array Value} {n : Nat} (N : News h₀ L h news) (hm : (a, ({ cls := .type "list", data := .seq its n } : Obj)) ∈ news) : h.IsList a its :=
  ⟨_, (N _ hm).1, rfl, n, rfl⟩
theorem isList_keep {h h' : Heap} {a : Addr} {its : Array Value} (x : h.IsList a its) (k : Kp h h') : h'.IsList a its := let ⟨o, e, r⟩ := x; ⟨o, k _ _ e, r⟩
/-- a new list of the answer's -/
noncomputable def NewList (h : Heap) (a : Addr) (its : Array Value) (h' : Heap) : Prop := h.get? a = none ∧ ∃ n, h'.get? a = some (W.listOf its n)
theorem NewList.isList {h h' : Heap} {a : Addr} {its : Array Value} (x : NewList h a its h') : h'.IsList a its := let ⟨_, n, e⟩ := x; ⟨_, e, rfl, n, rfl⟩
noncomputable def AllNe (d : Nat) : List (Addr × Obj) → Prop
  | [] => True
  | p :: r => @Ne Nat p.1 d ∧ AllNe d r
theorem allNe_of {d : Addr} : ∀ {l : List (Addr × Obj)}, (∀ p ∈ l, p.1 ≠ d) → AllNe d l
  | [], _ => trivial
  | p :: _, h => ⟨h p (.head _), allNe_of fun q hq => h q (.tail _ hq)⟩
theorem NewList.news {h h' : Heap} {a : Addr} {its : Array Value} {h₀ : Heap} {L : Addr} {m : Str → Option Value} {news : List (Addr × Obj)} (x : NewList h a its h') (F : Fr h₀ L h m) (N : News h₀ L h news) (N' : News h₀ L h' news) :
    ∃ n, News h₀ L h' ((a, W.listOf its n) :: news) ∧ AllNe a news := by
  obtain ⟨hs, n, e⟩ := x
  refine ⟨n, fun p hp => ?_, allNe_of fun p hp z => by rw [← z, (N p hp).1] at hs; cases hs⟩
  rcases List.mem_cons.mp hp with rfl | hp
  · refine ⟨e, ?_, ?_⟩
    · obtain ⟨oL, _, _, hL, _⟩ := F.ns
      rintro rfl
      rw [hL] at hs; cases hs
    · cases q : h₀.get? a with
      | none => rfl
      | some o => rw [F.keep _ _ q] at hs; cases hs
  · exact N' p hp
theorem newList_of {h₀ h : Heap} {L a : Addr} {news : List (Addr × Obj)} {its : Array Value} {n : Nat} (N : News h₀ L h news) (hm : (a, W.listOf its n) ∈ news) : NewList h₀ a its h :=
  ⟨(N _ hm).2.2, n, (N _ hm).1⟩
section
variable {M : Model} {A : Around} {E : Value → Shared → Prop} {s : Shared} {h₀ : Heap} {L a : Addr} {m : Str → Option Value} {cn : Str} {cs : Scope} {ccd : Value} {x : Str} {Q : Unit → Shared → Prop} {news : List (Addr × Obj)}
theorem stI {k : Int} {t : Tok} (F : Fr h₀ L s.heap m) (N : News h₀ L s.heap news)
    (h : ∀ h' tk t', Fr h₀ L h' (fun y => if y = x then some (.int k t') else m y) → News h₀ L h' news → Q () { s with heap := h', toks := tk })
    (hk : cs.kind = .function) (hx : (envOf cn cs L a ccd).kindOf x = some .local) : wpAny M A (storeName (envOf cn cs L a ccd) x (.int k t)) Q E s := stN F N (fun h' F' N' => h h' _ t F' N') hk hx
theorem stS {k : Str} {t : Tok} (F : Fr h₀ L s.heap m) (N : News h₀ L s.heap news)
    (h : ∀ h' tk t', Fr h₀ L h' (fun y => if y = x then some (.str k t') else m y) → News h₀ L h' news → Q () { s with heap := h', toks := tk })
    (hk : cs.kind = .function) (hx : (envOf cn cs L a ccd).kindOf x = some .local) : wpAny M A (storeName (envOf cn cs L a ccd) x (.str k t)) Q E s := stN F N (fun h' F' N' => h h' _ t F' N') hk hx
theorem stG {v : Value} (F : Fr h₀ L s.heap m) (N : News h₀ L s.heap news)
    (h : ∀ h' tk, Fr h₀ L h' (fun y => if y = x then some v else m y) → News h₀ L h' news → Q () { s with heap := h', toks := tk })
    (hk : cs.kind = .function) (hx : (envOf cn cs L a ccd).kindOf x = some .local) : wpAny M A (storeName (envOf cn cs L a ccd) x v) Q E s := stN F N (fun h' F' N' => h h' _ F' N') hk hx
end
section
variable {s : Shared} {L : Addr} {m : Str → Option Value} {h' : Heap} {tk : Nat} {g' : Array GenState} {Q : Value → Shared → Prop} {news : List (Addr × Obj)} {l' : Addr} {n : Nat} {post : Heap → Value → Heap → Prop}
/-- the end of a body: an answer by its post -/
theorem end_by (hret : ∀ (v : Value) (h' : Heap) (tk : Nat) (g' : Array GenState), Kp s.heap h' → GOk s.gens g' → post s.heap v h' → Q v { s with heap := h', toks := tk, gens := g' })
    {v : Value} (F : Fr s.heap L h' m) (g : GOk s.gens g') (hp : post s.heap v h') : Q v { s with heap := h', toks := tk, gens := g' } := hret _ _ _ _ F.keep g hp
noncomputable def IntIs (x : Int) (h : Heap) (v : Value) (h' : Heap) : Prop := ∃ t, v = .int x t
noncomputable def StrIs (x : Str) (h : Heap) (v : Value) (h' : Heap) : Prop := ∃ t, v = .str x t
noncomputable def BoolIs (x : Bool) (h : Heap) (v : Value) (h' : Heap) : Prop := v = .bool x
theorem end_int {x y : Int} {t : Tok} {h h' : Heap} (e : y = x) : IntIs x h (.int y t) h' := e ▸ ⟨t, rfl⟩
theorem end_str {x y : Str} {t : Tok} {h h' : Heap} (e : y = x) : StrIs x h (.str y t) h' := e ▸ ⟨t, rfl⟩
theorem end_bool {x y : Bool} {h h' : Heap} (e : y = x) : BoolIs x h (.bool y) h' := e ▸ rfl
/-- two ints in a new list -/
noncomputable def List2 (A B : Int) (h : Heap) (v : Value) (h' : Heap) : Prop := ∃ a t1 t2, v = .ref a ∧ NewList h a #[.int A t1, .int B t2] h'
theorem end_list2 {A B x y : Int} {t1 t2 : Tok} {h₀ : Heap} (N : News h₀ L h' news) (hm : (l', W.listOf #[.int x t1, .int y t2] n) ∈ news) (e1 : x = A) (e2 : y = B) : List2 A B h₀ (.ref l') h' := by
  subst e1 e2
  exact ⟨_, _, _, rfl, newList_of N hm⟩
end
/-- a goal at which the walk is to wait -/
noncomputable def Halt (P : Prop) : Prop := P
theorem Halt.mk {P : Prop} (h : Halt P) : P := h
theorem Halt.go {P : Prop} (h : P) : Halt P := h
theorem canon2 {m : Str → Option Value} {a b : Str} {v1 v2 : Option Value} (h1 : m a = v1) (h2 : m b = v2) : ∃ rest : Str → Option Value, m = fun y => if y = a then v1 else if y = b then v2 else rest y := by
  refine ⟨m, funext fun y => ?_⟩
  by_cases e1 : y = a
  · rw [if_pos e1, e1, h1]
  · rw [if_neg e1]
    by_cases e2 : y = b
    · rw [if_pos e2, e2, h2]
    · rw [if_neg e2]
theorem canon3 {m : Str → Option Value} {a b c : Str} {v1 v2 v3 : Option Value} (h1 : m a = v1) (h2 : m b = v2) (h3 : m c = v3) : ∃ rest : Str → Option Value, m = fun y => if y = a then v1 else if y = b then v2 else if y = c then v3 else rest y := by
  refine ⟨m, funext fun y => ?_⟩
  by_cases e1 : y = a
  · rw [if_pos e1, e1, h1]
  · rw [if_neg e1]
    by_cases e2 : y = b
    · rw [if_pos e2, e2, h2]
    · rw [if_neg e2]
      by_cases e3 : y = c
      · rw [if_pos e3, e3, h3]
      · rw [if_neg e3]
end Mine

end
section
open PySem PySem.W PySem.Calls PyProof.Rows
set_option Elab.async false
set_option linter.unusedVariables false
namespace Mine
noncomputable def stepOf (c : Str) : Int := if (c == Str.ofString "(") = true then 1 else if (c == Str.ofString ")") = true then -1 else 0
noncomputable def minOf (a b : Int) : Int := if b < a then b else a

set_option maxRecDepth 100000 in
set_option maxHeartbeats 8000000 in
theorem walk_spec0 : ∀ (w : World) (mg mb : Str → Option Value) (s : Shared) (Q E : Value → Shared → Prop) (a : Addr) (lo en : Int) (t1 t2 t3 : Tok) (c : Str),
    (Mine.K2 w.params).In s.heap → TopRead Mine.myView LS mg mb s.heap → s.heap.IsList a #[.int lo t1, .int en t2] → (∀ (v : Value) (h' : Heap) (tk : Nat) (g' : Array GenState), Kp s.heap h' → GOk s.gens g' → (List2 (minOf lo (en + stepOf c)) (en + stepOf c)) s.heap v h' → Q v { s with heap := h', toks := tk, gens := g' }) →
    wpAny (model PySem.Challenge.rw_om0053_01.prog w) (AA 20) (call (.ref 110) [.ref a, .str c t3]) Q E s := by
  k_fill
  intro w mg mb s Q E a lo en t1 t2 t3 c X T hl hret
  refine wpAny_call ?_
  k_dflt (refine' call_plain (binds := [(Str.ofString "told", .ref a), (Str.ofString "sign", .str c t3)]) ?k1 ?k2 ?k3 ?k4 ?k5 ?k6 ?k7 ?_ ?c1 ?c2 ?c3 ?c4; (case k2 => exact X _ _ (by k_is)); (case k3 => exact rfl); (case k1 => decide); (case k4 => exact T.nolimit); (case k5 => exact codeRec_of X (by k_is)); (case k6 => exact rfl); (case k7 => exact locs rfl); (case c1 => exact rfl); (case c2 => exact rfl); (case c3 => exact rfl); (case c4 => decide))
  intro h1 F1
  k_fold
  have N1 : News s.heap s.heap.objs.size h1 [] := News.nil
  k_steps
  all_goals (refine end_by (s := s) hret (by assumption) (GOk.refl _) (end_list2 (by assumption) (List.Mem.head _) ?_ ?_) <;> simp_all [stepOf, minOf])
theorem walk_spec (w : World) (mg mb : Str → Option Value) (a : Addr) (lo en : Int) (t1 t2 t3 : Tok) (c : Str) :
    Spec w mg mb 20 110 [.ref a, .str c t3] (fun h => h.IsList a #[.int lo t1, .int en t2]) (List2 (minOf lo (en + stepOf c)) (en + stepOf c)) :=
  fun s Q E X T hl hret => walk_spec0 w mg mb s Q E a lo en t1 t2 t3 c X T hl hret

set_option maxRecDepth 100000 in
set_option maxHeartbeats 8000000 in
theorem ifmt_spec0 : ∀ (w : World) (mg mb : Str → Option Value) (s : Shared) (Q E : Value → Shared → Prop) (n : Int) (t : Tok),
    (Mine.K2 w.params).In s.heap → TopRead Mine.myView LS mg mb s.heap → 0 ≤ n → n < 65536 → (∀ (v : Value) (h' : Heap) (tk : Nat) (g' : Array GenState), Kp s.heap h' → GOk s.gens g' → (IntIs (Builtin.bitAnd n 61440)) s.heap v h' → Q v { s with heap := h', toks := tk, gens := g' }) →
    wpAny (model PySem.Challenge.rw_om0053_01.prog w) (AA 20) (call (.ref 58) [.int n t]) Q E s := by
  k_fill
  intro w mg mb s Q E n t X T h1 h2 hret
  refine wpAny_call ?_
  k_dflt (refine' call_plain (binds := [(Str.ofString "mode", .int n t)]) ?k1 ?k2 ?k3 ?k4 ?k5 ?k6 ?k7 ?_ ?c1 ?c2 ?c3 ?c4; (case k2 => exact X _ _ (by k_is)); (case k3 => exact rfl); (case k1 => decide); (case k4 => exact T.nolimit); (case k5 => exact codeRec_of X (by k_is)); (case k6 => exact rfl); (case k7 => exact locs rfl); (case c1 => exact rfl); (case c2 => exact rfl); (case c3 => exact rfl); (case c4 => decide))
  intro h1 F1
  k_fold
  have N1 : News s.heap s.heap.objs.size h1 [] := News.nil
  k_steps
  all_goals exact end_by (s := s) hret (by assumption) (GOk.refl _) (end_int rfl)
theorem ifmt_spec (w : World) (mg mb : Str → Option Value) (n : Int) (t : Tok) (h1 : 0 ≤ n) (h2 : n < 65536) :
    Spec w mg mb 20 58 [.int n t] (fun _ => True) (IntIs (Builtin.bitAnd n 61440)) :=
  fun s Q E X T _ hret => ifmt_spec0 w mg mb s Q E n t X T h1 h2 hret
noncomputable def rankOf (lo en : Int) : Int × Int := if 0 ≤ en then (0, -lo) else (1, lo - en)
set_option maxRecDepth 100000 in
set_option maxHeartbeats 8000000 in
theorem rank_spec0 : ∀ (w : World) (mg mb : Str → Option Value) (s : Shared) (Q E : Value → Shared → Prop) (a : Addr) (lo en : Int) (t1 t2 : Tok),
    (Mine.K2 w.params).In s.heap → TopRead Mine.myView LS mg mb s.heap → s.heap.IsList a #[.int lo t1, .int en t2] → (∀ (v : Value) (h' : Heap) (tk : Nat) (g' : Array GenState), Kp s.heap h' → GOk s.gens g' → (List2 (rankOf lo en).1 (rankOf lo en).2) s.heap v h' → Q v { s with heap := h', toks := tk, gens := g' }) →
    wpAny (model PySem.Challenge.rw_om0053_01.prog w) (AA 20) (call (.ref 122) [.ref a]) Q E s := by
  k_fill
  intro w mg mb s Q E a lo en t1 t2 X T hl hret
  refine wpAny_call ?_
  k_dflt (refine' call_plain (binds := [(Str.ofString "one", .ref a)]) ?k1 ?k2 ?k3 ?k4 ?k5 ?k6 ?k7 ?_ ?c1 ?c2 ?c3 ?c4; (case k2 => exact X _ _ (by k_is)); (case k3 => exact rfl); (case k1 => decide); (case k4 => exact T.nolimit); (case k5 => exact codeRec_of X (by k_is)); (case k6 => exact rfl); (case k7 => exact locs rfl); (case c1 => exact rfl); (case c2 => exact rfl); (case c3 => exact rfl); (case c4 => decide))
  intro h1 F1
  k_fold
  have N1 : News s.heap s.heap.objs.size h1 [] := News.nil
  k_steps
  all_goals (refine end_by (s := s) hret (by assumption) (GOk.refl _) (end_list2 (by assumption) (List.Mem.head _) ?_ ?_) <;> (simp only [rankOf]; split <;> simp_all <;> (first | lia | omega)))
theorem rank_spec (w : World) (mg mb : Str → Option Value) (a : Addr) (lo en : Int) (t1 t2 : Tok) :
    Spec w mg mb 20 122 [.ref a] (fun h => h.IsList a #[.int lo t1, .int en t2]) (List2 (rankOf lo en).1 (rankOf lo en).2) :=
  fun s Q E X T hl hret => rank_spec0 w mg mb s Q E a lo en t1 t2 X T hl hret
end Mine

end
section
open PySem PySem.W PySem.Calls PyProof.Rows
set_option Elab.async false
set_option linter.unusedVariables false
namespace Mine
open PySem.AutoSeq1 (wpAny_loadPart')
open PySem.MeetsSeq PySem.MeetsSeq2 PySem.MeetsSeq3 PySem.SeqRoads2 PySem.SeqAt
section
variable (l b : Addr) (a1 a2 b1 b2 : Int) (t1 t2 u1 u2 : Tok) (n n2 : Nat) (dd dd2 : Option Addr) (sl sl2 : Array (Option Value)) (items items2 : Array Value) (hA : items = #[.int a1 t1, .int a2 t2]) (hB : items2 = #[.int b1 u1, .int b2 u2])
include hA hB
theorem lt_loop2 : Meets (Builtin.«list.__eq__.loop» ⟨[.ref l, .ref b, rawInt 2, rawInt 0], []⟩)
      (fun A R s => s.heap.get? l = some { cls := .type "list", dict := dd, data := .seq items n, slots := sl } ∧ s.heap.get? b = some { cls := .type "list", dict := dd2, data := .seq items2 n2, slots := sl2 } ∧
        R (.ok (.ret (.bool false))) s) := by
  intro prog w A R s h
  obtain ⟨hp, g, d, tk, os⟩ := s; obtain ⟨hl, hb, h⟩ := h
  wp_walk using wpAny_loadPart' hl, wpAny_loadPart' hb
  have hi1 : items[(2 : Int).toNat]? = none := by rw [hA]; rfl
  have hi2 : items2[(2 : Int).toNat]? = none := by rw [hB]; rfl
  rw [hi1, hi2]
  wp_walk using wpAny_loadPart' hl, wpAny_loadPart' hb
  subst hA hB
  exact h
theorem lt_loop1 : Meets (Builtin.«list.__eq__.loop» ⟨[.ref l, .ref b, rawInt 1, rawInt 0], []⟩)
      (fun A R s => s.heap.get? l = some { cls := .type "list", dict := dd, data := .seq items n, slots := sl } ∧ s.heap.get? b = some { cls := .type "list", dict := dd2, data := .seq items2 n2, slots := sl2 } ∧
        R (.ok (.ret (.bool (decide (a2 < b2))))) s) := by
  intro prog w A R s h
  obtain ⟨hp, g, d, tk, os⟩ := s; obtain ⟨hl, hb, h⟩ := h
  wp_walk using wpAny_loadPart' hl, wpAny_loadPart' hb
  have hi1 : items[(1 : Int).toNat]? = some (.int a2 t2) := by rw [hA]; rfl
  have hi2 : items2[(1 : Int).toNat]? = some (.int b2 u2) := by rw [hB]; rfl
  rw [hi1, hi2]
  refine wpAny_bind (EqGives.int a2 b2 t2 u2 prog w _ _ _ _ ?_)
  by_cases e : a2 = b2
  · subst e
    rw [beq_self_eq_true]
    wp_walk
    exact ⟨plainId_quiet plain_eq_loop _, codeAny_builtin entry_eq_loop (by
        rw [Around.under_plainId plain_eq_loop _]
        exact lt_loop2 l b a1 a2 b1 a2 t1 t2 u1 u2 n n2 dd dd2 sl sl2 items items2 hA hB prog w A R _ ⟨hl, hb, by simpa using h⟩)⟩
  · rw [beq_eq_false_iff_ne.mpr e]
    wp_walk using wpAny_loadPart' hl, wpAny_loadPart' hb
    rw [hi1, hi2]
    refine wpAny_bind (lt_int (prog := prog) (w := w) (t := t2) (u := u2) ?_)
    exact wpAny_pure h
theorem lt_loop0 : Meets (Builtin.«list.__eq__.loop» ⟨[.ref l, .ref b, rawInt 0, rawInt 0], []⟩)
      (fun A R s => s.heap.get? l = some { cls := .type "list", dict := dd, data := .seq items n, slots := sl } ∧ s.heap.get? b = some { cls := .type "list", dict := dd2, data := .seq items2 n2, slots := sl2 } ∧
        R (.ok (.ret (.bool (decide (a1 < b1 ∨ (a1 = b1 ∧ a2 < b2)))))) s) := by
  intro prog w A R s h
  obtain ⟨hp, g, d, tk, os⟩ := s; obtain ⟨hl, hb, h⟩ := h
  wp_walk using wpAny_loadPart' hl, wpAny_loadPart' hb
  have hi1 : items[(0 : Int).toNat]? = some (.int a1 t1) := by rw [hA]; rfl
  have hi2 : items2[(0 : Int).toNat]? = some (.int b1 u1) := by rw [hB]; rfl
  rw [hi1, hi2]
  refine wpAny_bind (EqGives.int a1 b1 t1 u1 prog w _ _ _ _ ?_)
  by_cases e : a1 = b1
  · subst e
    rw [beq_self_eq_true]
    wp_walk
    exact ⟨plainId_quiet plain_eq_loop _, codeAny_builtin entry_eq_loop (by
        rw [Around.under_plainId plain_eq_loop _]
        exact lt_loop1 l b a1 a2 a1 b2 t1 t2 u1 u2 n n2 dd dd2 sl sl2 items items2 hA hB prog w A R _ ⟨hl, hb, by simpa using h⟩)⟩
  · rw [beq_eq_false_iff_ne.mpr e]
    wp_walk using wpAny_loadPart' hl, wpAny_loadPart' hb
    rw [hi1, hi2]
    refine wpAny_bind (lt_int (prog := prog) (w := w) (t := t1) (u := u1) ?_)
    exact wpAny_pure (by simpa [e] using h)
theorem list_lt : Meets (Builtin.«list.__lt__» ⟨[.ref l, .ref b], []⟩)
      (fun A R s => s.heap.get? l = some { cls := .type "list", dict := dd, data := .seq items n, slots := sl } ∧ s.heap.get? b = some { cls := .type "list", dict := dd2, data := .seq items2 n2, slots := sl2 } ∧
        R (.ok (.ret (.bool (decide (a1 < b1 ∨ (a1 = b1 ∧ a2 < b2)))))) s) := by
  intro prog w A R s h
  obtain ⟨hp, g, d, tk, os⟩ := s; obtain ⟨hl, hb, h⟩ := h
  have f3 := AutoSeq1.sub_list_list
  wp_walk using wpAny_loadPart' hl, wpAny_loadPart' hb
  exact ⟨plainId_quiet plain_eq_loop _, codeAny_builtin entry_eq_loop (by
    rw [Around.under_plainId plain_eq_loop _]
    exact lt_loop0 l b a1 a2 b1 b2 t1 t2 u1 u2 n n2 dd dd2 sl sl2 items items2 hA hB prog w A R _ ⟨hl, hb, by simpa using h⟩)⟩
omit hA hB in
theorem cmp_lt {l b : Addr} {a1 a2 b1 b2 : Int} {t1 t2 u1 u2 : Tok} {prog : Program} {w : World} {A : Around} {E : Value → Shared → Prop} {s : Shared} {Q : Value → Shared → Prop} (hl : s.heap.IsList l #[.int a1 t1, .int a2 t2]) (hb : s.heap.IsList b #[.int b1 u1, .int b2 u2]) (hu : A.units < cLine)
    (h : Q (.bool (decide (a1 < b1 ∨ (a1 = b1 ∧ a2 < b2)))) s) : wpAny (model prog w) A (compareOp .Lt (.ref l) (.ref b)) Q E s := by
  obtain ⟨⟨cls, dd, data, sl⟩, ho, hc, n, hd⟩ := id hl
  obtain ⟨⟨cls2, dd2, data2, sl2⟩, ho2, hc2, n2, hd2⟩ := id hb
  simp only at hc hd hc2 hd2
  subst hc hd hc2 hd2
  exact richCompare_meets_room (op := .Lt) ⟨_, ho, rfl⟩ ⟨_, ho2, rfl⟩ F.slot_list_lt F.entry_list_lt (F.args_list_lt_2 _ _) (list_lt l b a1 a2 b1 b2 t1 t2 u1 u2 n n2 dd dd2 sl sl2 _ _ rfl rfl)
    ⟨ho, ho2, ⟨(fun x => nomatch x), h⟩⟩ hu
theorem gt_loop2 : Meets (Builtin.«list.__eq__.loop» ⟨[.ref l, .ref b, rawInt 2, rawInt 4], []⟩)
      (fun A R s => s.heap.get? l = some { cls := .type "list", dict := dd, data := .seq items n, slots := sl } ∧ s.heap.get? b = some { cls := .type "list", dict := dd2, data := .seq items2 n2, slots := sl2 } ∧
        R (.ok (.ret (.bool false))) s) := by
  intro prog w A R s h
  obtain ⟨hp, g, d, tk, os⟩ := s; obtain ⟨hl, hb, h⟩ := h
  wp_walk using wpAny_loadPart' hl, wpAny_loadPart' hb
  have hi1 : items[(2 : Int).toNat]? = none := by rw [hA]; rfl
  have hi2 : items2[(2 : Int).toNat]? = none := by rw [hB]; rfl
  rw [hi1, hi2]
  wp_walk using wpAny_loadPart' hl, wpAny_loadPart' hb
  subst hA hB
  exact h
theorem gt_loop1 : Meets (Builtin.«list.__eq__.loop» ⟨[.ref l, .ref b, rawInt 1, rawInt 4], []⟩)
      (fun A R s => s.heap.get? l = some { cls := .type "list", dict := dd, data := .seq items n, slots := sl } ∧ s.heap.get? b = some { cls := .type "list", dict := dd2, data := .seq items2 n2, slots := sl2 } ∧
        R (.ok (.ret (.bool (decide (a2 > b2))))) s) := by
  intro prog w A R s h
  obtain ⟨hp, g, d, tk, os⟩ := s; obtain ⟨hl, hb, h⟩ := h
  wp_walk using wpAny_loadPart' hl, wpAny_loadPart' hb
  have hi1 : items[(1 : Int).toNat]? = some (.int a2 t2) := by rw [hA]; rfl
  have hi2 : items2[(1 : Int).toNat]? = some (.int b2 u2) := by rw [hB]; rfl
  rw [hi1, hi2]
  refine wpAny_bind (EqGives.int a2 b2 t2 u2 prog w _ _ _ _ ?_)
  by_cases e : a2 = b2
  · subst e
    rw [beq_self_eq_true]
    wp_walk
    exact ⟨plainId_quiet plain_eq_loop _, codeAny_builtin entry_eq_loop (by
        rw [Around.under_plainId plain_eq_loop _]
        exact gt_loop2 l b a1 a2 b1 a2 t1 t2 u1 u2 n n2 dd dd2 sl sl2 items items2 hA hB prog w A R _ ⟨hl, hb, by simpa using h⟩)⟩
  · rw [beq_eq_false_iff_ne.mpr e]
    wp_walk using wpAny_loadPart' hl, wpAny_loadPart' hb
    rw [hi1, hi2]
    refine wpAny_bind (gt_int (prog := prog) (w := w) (t := t2) (u := u2) ?_)
    exact wpAny_pure h
theorem gt_loop0 : Meets (Builtin.«list.__eq__.loop» ⟨[.ref l, .ref b, rawInt 0, rawInt 4], []⟩)
      (fun A R s => s.heap.get? l = some { cls := .type "list", dict := dd, data := .seq items n, slots := sl } ∧ s.heap.get? b = some { cls := .type "list", dict := dd2, data := .seq items2 n2, slots := sl2 } ∧
        R (.ok (.ret (.bool (decide (a1 > b1 ∨ (a1 = b1 ∧ a2 > b2)))))) s) := by
  intro prog w A R s h
  obtain ⟨hp, g, d, tk, os⟩ := s; obtain ⟨hl, hb, h⟩ := h
  wp_walk using wpAny_loadPart' hl, wpAny_loadPart' hb
  have hi1 : items[(0 : Int).toNat]? = some (.int a1 t1) := by rw [hA]; rfl
  have hi2 : items2[(0 : Int).toNat]? = some (.int b1 u1) := by rw [hB]; rfl
  rw [hi1, hi2]
  refine wpAny_bind (EqGives.int a1 b1 t1 u1 prog w _ _ _ _ ?_)
  by_cases e : a1 = b1
  · subst e
    rw [beq_self_eq_true]
    wp_walk
    exact ⟨plainId_quiet plain_eq_loop _, codeAny_builtin entry_eq_loop (by
        rw [Around.under_plainId plain_eq_loop _]
        exact gt_loop1 l b a1 a2 a1 b2 t1 t2 u1 u2 n n2 dd dd2 sl sl2 items items2 hA hB prog w A R _ ⟨hl, hb, by simpa using h⟩)⟩
  · rw [beq_eq_false_iff_ne.mpr e]
    wp_walk using wpAny_loadPart' hl, wpAny_loadPart' hb
    rw [hi1, hi2]
    refine wpAny_bind (gt_int (prog := prog) (w := w) (t := t1) (u := u1) ?_)
    exact wpAny_pure (by simpa [e] using h)
theorem list_gt : Meets (Builtin.«list.__gt__» ⟨[.ref l, .ref b], []⟩)
      (fun A R s => s.heap.get? l = some { cls := .type "list", dict := dd, data := .seq items n, slots := sl } ∧ s.heap.get? b = some { cls := .type "list", dict := dd2, data := .seq items2 n2, slots := sl2 } ∧
        R (.ok (.ret (.bool (decide (a1 > b1 ∨ (a1 = b1 ∧ a2 > b2)))))) s) := by
  intro prog w A R s h
  obtain ⟨hp, g, d, tk, os⟩ := s; obtain ⟨hl, hb, h⟩ := h
  have f3 := AutoSeq1.sub_list_list
  wp_walk using wpAny_loadPart' hl, wpAny_loadPart' hb
  exact ⟨plainId_quiet plain_eq_loop _, codeAny_builtin entry_eq_loop (by
    rw [Around.under_plainId plain_eq_loop _]
    exact gt_loop0 l b a1 a2 b1 b2 t1 t2 u1 u2 n n2 dd dd2 sl sl2 items items2 hA hB prog w A R _ ⟨hl, hb, by simpa using h⟩)⟩
omit hA hB in
theorem cmp_gt {l b : Addr} {a1 a2 b1 b2 : Int} {t1 t2 u1 u2 : Tok} {prog : Program} {w : World} {A : Around} {E : Value → Shared → Prop} {s : Shared} {Q : Value → Shared → Prop} (hl : s.heap.IsList l #[.int a1 t1, .int a2 t2]) (hb : s.heap.IsList b #[.int b1 u1, .int b2 u2]) (hu : A.units < cLine)
    (h : Q (.bool (decide (a1 > b1 ∨ (a1 = b1 ∧ a2 > b2)))) s) : wpAny (model prog w) A (compareOp .Gt (.ref l) (.ref b)) Q E s := by
  obtain ⟨⟨cls, dd, data, sl⟩, ho, hc, n, hd⟩ := id hl
  obtain ⟨⟨cls2, dd2, data2, sl2⟩, ho2, hc2, n2, hd2⟩ := id hb
  simp only at hc hd hc2 hd2
  subst hc hd hc2 hd2
  exact richCompare_meets_room (op := .Gt) ⟨_, ho, rfl⟩ ⟨_, ho2, rfl⟩ F.slot_list_gt F.entry_list_gt (F.args_list_gt_2 _ _) (list_gt l b a1 a2 b1 b2 t1 t2 u1 u2 n n2 dd dd2 sl sl2 _ _ rfl rfl)
    ⟨ho, ho2, ⟨(fun x => nomatch x), h⟩⟩ hu
end
end Mine

end
section
open PySem PySem.W PySem.W.X PySem.Calls PyProof.Rows Mine
local macro_rules | `(tactic| walk_at "my_store") => `(tactic| (k_here; k_dflt (first | (refine' stI ?F ?N ?_ ?a ?b; (case F => k_asm); (case N => k_asm); (case a => rfl); (case b => rfl); k_whole; intro h' tk' t' F' N'; (try dsimp only); (try k_sweep)) | (refine' stS ?F ?N ?_ ?a ?b; (case F => k_asm); (case N => k_asm); (case a => rfl); (case b => rfl); k_whole; intro h' tk' t' F' N'; (try dsimp only); (try k_sweep)) | (refine' stG ?F ?N ?_ ?a ?b; (case F => k_asm); (case N => k_asm); (case a => rfl); (case b => rfl); k_whole; intro h' tk' F' N'; (try dsimp only); (try k_sweep)))))
section
open PySem PySem.W PySem.Calls PyProof.Rows
set_option Elab.async false
set_option linter.unusedVariables false
namespace Mine
section
variable {prog : Program} {w : World} {A : Around} {E : Value → Shared → Prop} {s : Shared} {h₀ : Heap} {L a : Addr} {m : Str → Option Value} {cn : Str} {cs : Scope} {ccd : Value} {Q : Value → Shared → Prop}
theorem move_if {sp th : Int} {ts tt : Tok} {k1 k2 k3 k4 k5 : Nat} {p1 p2 p3 p4 p5 p6 p7 p8 p9 p10 p11 p12 : Pos}
    (F : Fr h₀ L s.heap m) (hs : m (Str.ofString "special") = some (.int sp ts)) (ht : m (Str.ofString "three") = some (.int th tt))
    (h : ∀ t tk, Q (.int (if sp = 1 ∧ th.fmod 2 = 0 then 1 else 0) t) { s with toks := tk })
    (hk : cs.kind = .function) (h1 : (envOf cn cs L a ccd).kindOf (Str.ofString "special") = some .local) (h2 : (envOf cn cs L a ccd).kindOf (Str.ofString "three") = some .local) :
    wpAny (model prog w) A (eval (.IfExp (.BoolOp .And [.Compare (.Name (Str.ofString "special") p1) [.Eq] [.Constant (.int 1) k1 p2] p3,
      .Compare (.BinOp (.Name (Str.ofString "three") p4) .Mod (.Constant (.int 2) k2 p5) p6) [.Eq] [.Constant (.int 0) k3 p7] p8] p9) (.Constant (.int 1) k4 p10) (.Constant (.int 0) k5 p12) p11) (envOf cn cs L a ccd)) Q E s := by
  with_reducible refine IfExp_ (isTrue_and (wpAny_isTrue_Compare1 (ld F hs (wpAny_Constant_int (eq_int (wpAny_truthy_bool ?_))) hk h1)))
  by_cases e1 : sp = 1
  · rw [if_pos (beq_iff_eq.mpr e1)]
    with_reducible refine isTrue_and (wpAny_isTrue_Compare1 (wpAny_BinOp (ld F ht (wpAny_Constant_int (mod_int' (by decide) (wpAny_Constant_int (eq_int (wpAny_truthy_bool ?_))))) hk h2)))
    by_cases e2 : th.fmod 2 = 0
    · rw [if_pos (beq_iff_eq.mpr e2)]
      refine isTrue_and_nil ?_
      rw [if_pos rfl]
      refine wpAny_Constant_int ?_
      have := h (s.toks + 1 + 1 + 1 + 1) (s.toks + 1 + 1 + 1 + 1 + 1)
      rw [if_pos ⟨e1, e2⟩] at this
      exact this
    · rw [if_neg (by simpa using e2), if_neg (by decide)]
      refine wpAny_Constant_int ?_
      have := h (s.toks + 1 + 1 + 1 + 1) (s.toks + 1 + 1 + 1 + 1 + 1)
      rw [if_neg (fun x => e2 x.2)] at this
      exact this
  · rw [if_neg (by simpa using e1), if_neg (by decide)]
    refine wpAny_Constant_int ?_
    have := h (s.toks + 1) (s.toks + 1 + 1)
    rw [if_neg (fun x => e1 x.1)] at this
    exact this
end
noncomputable def threeOf (n : Int) (k : Nat) : Int := (n.fdiv (8 ^ k)).fmod 8
noncomputable def specOf (n : Int) (k : Nat) : Int := ((n.fdiv 512).fdiv (2 ^ k)).fmod 2
noncomputable def moveStep (n : Int) (k : Nat) (p : Int × Int) : Int × Int :=
  (minOf p.1 (p.2 + (threeOf n k).fdiv 4 - ((threeOf n k).fdiv 2).fmod 2 - (if specOf n k = 1 ∧ (threeOf n k).fmod 2 = 0 then 1 else 0)), p.2 + (threeOf n k).fdiv 4 - ((threeOf n k).fdiv 2).fmod 2)
noncomputable def moveOf (n : Int) : Int × Int := moveStep n 0 (moveStep n 1 (moveStep n 2 (0, 0)))
local macro_rules | `(tactic| walk_at "eval IfExp") => `(tactic| (k_here; k_dflt (refine' move_if ?F ?a1 ?a2 ?_ ?a3 ?a4 ?a5; (case F => k_asm); (case a1 => exact rfl); (case a2 => exact rfl); (case a3 => rfl); (case a4 => rfl); (case a5 => rfl); k_whole; intro t' tk'; (try dsimp only))))
local macro_rules | `(tactic| walk_at "storeName") => `(tactic| walk_at "my_store")
local macro_rules | `(tactic| walk_at "ListRest") => `(tactic| (k_here; refine Halt.mk ?_))
local macro_rules | `(tactic| walk_at "binaryOp Pow int int") => `(tactic| (k_here; refine pow_int_small (by assumption) (by (first | lia | omega)) (by decide) ?_))
local macro_rules | `(tactic| walk_at "binaryOp FloorDiv int int") => `(tactic| (k_here; refine floordiv_int (by first | assumption | decide) ?_ (Or.inl (by first | (rename (∀ x : Int, Builtin.divisionGoesByPylong x (8 ^ _) = false) => hz; exact hz _) | (rename (∀ x : Int, Builtin.divisionGoesByPylong x (2 ^ _) = false) => hz; exact hz _) | exact PyProof.noPylong_small (by decide)))))
local macro_rules | `(tactic| walk_at "binaryOp Mod int int") => `(tactic| (k_here; refine mod_int' (by decide) ?_))
noncomputable def MJ (n : Int) (t : Tok) (p : Int × Int) (tl te : Tok) (m : Str → Option Value) : Prop :=
  m (Str.ofString "lowest") = some (.int p.1 tl) ∧ m (Str.ofString "end") = some (.int p.2 te) ∧ m (Str.ofString "bits") = some (.int n t)
theorem turns {P : List Value → (Str → Option Value) → List (Addr × Obj) → Prop} {n : Int} {t : Tok} {lp : Addr × Obj} {a b c : Tok}
    (turn : ∀ (k : Int) (tk : Tok) (r : List Value) (p : Int × Int), 0 ≤ k → k ≤ 2 → (∀ m' n' tl te, MJ n t (moveStep n k.toNat p) tl te m' → lp ∈ n' → P r m' n') → ∀ m' n' tl te, MJ n t p tl te m' → lp ∈ n' → P (.int k tk :: r) m' n')
    (fin : ∀ m' n' tl te, MJ n t (moveOf n) tl te m' → lp ∈ n' → P [] m' n') {m : Str → Option Value} {n' : List (Addr × Obj)} {tl te : Tok} (h : MJ n t (0, 0) tl te m) (hm : lp ∈ n') : P [.int 2 a, .int 1 b, .int 0 c] m n' :=
  turn 2 a _ _ (by decide) (by decide) (fun _ _ _ _ h hm => turn 1 b _ _ (by decide) (by decide) (fun _ _ _ _ h hm => turn 0 c _ _ (by decide) (by decide) fin _ _ _ _ h hm) _ _ _ _ h hm) _ _ _ _ h hm
theorem news2 {h₀ h : Heap} {L : Addr} {q lp : Addr × Obj} {n : List (Addr × Obj)} (N : News h₀ L h (q :: n)) (hm : lp ∈ n) : News h₀ L h [q, lp] := fun p hp => by
  rcases List.mem_cons.mp hp with rfl | hp
  · exact N _ (.head _)
  · exact N _ (.tail _ (by rw [List.mem_singleton.mp hp]; exact hm))
theorem pow_facts {a k : Int} (ha : a = 2 ∨ a = 8) (h0 : 0 ≤ k) (h2 : k ≤ 2) : a ^ k.toNat ≠ 0 ∧ ∀ x : Int, Builtin.divisionGoesByPylong x (a ^ k.toNat) = false := by
  have hk : k = 0 ∨ k = 1 ∨ k = 2 := by (first | lia | omega)
  rcases ha with rfl | rfl <;> rcases hk with rfl | rfl | rfl <;> exact ⟨by decide, fun x => PyProof.noPylong_small (by decide)⟩
set_option maxRecDepth 100000 in
set_option maxHeartbeats 8000000 in
theorem move_spec0 : ∀ (w : World) (mg mb : Str → Option Value) (s : Shared) (Q E : Value → Shared → Prop) (n : Int) (t : Tok),
    (Mine.K2 w.params).In s.heap → TopRead Mine.myView LS mg mb s.heap → (∀ (v : Value) (h' : Heap) (tk : Nat) (g' : Array GenState), Kp s.heap h' → GOk s.gens g' → (List2 (moveOf n).1 (moveOf n).2) s.heap v h' → Q v { s with heap := h', toks := tk, gens := g' }) →
    wpAny (model PySem.Challenge.rw_om0053_01.prog w) (AA 20) (call (.ref 136) [.int n t]) Q E s := by
  k_fill
  intro w mg mb s Q E n t X T hret
  refine wpAny_call ?_
  k_dflt (refine' call_plain (binds := [(Str.ofString "bits", .int n t)]) ?k1 ?k2 ?k3 ?k4 ?k5 ?k6 ?k7 ?_ ?c1 ?c2 ?c3 ?c4; (case k2 => exact X _ _ (by k_is)); (case k3 => exact rfl); (case k1 => decide); (case k4 => exact T.nolimit); (case k5 => exact codeRec_of X (by k_is)); (case k6 => exact rfl); (case k7 => exact locs rfl); (case c1 => exact rfl); (case c2 => exact rfl); (case c3 => exact rfl); (case c4 => decide))
  intro h1 F1
  k_fold
  have N1 : News s.heap s.heap.objs.size h1 [] := News.nil
  k_steps
  refine Halt.go (turns (n := n) (t := t) ?turn ?fin ⟨rfl, rfl, rfl⟩ (.head _))
  case turn =>
    rintro k tk r ⟨lo, en⟩ hk0 hk2 hP m' n' tl te ⟨h1, h2, h3⟩ hm
    obtain ⟨p80, p8⟩ := pow_facts (.inr rfl) hk0 hk2
    obtain ⟨p20, p2⟩ := pow_facts (.inl rfl) hk0 hk2
    obtain ⟨rest, rfl⟩ := canon3 h1 h2 h3
    with_reducible refine ListRest.succ fun it' h' tk' hit' F' N' => ?_
    replace N' := news2 N' hm
    k_steps
    all_goals exact Halt.go (hP _ _ _ _ ⟨rfl, rfl, rfl⟩ (by k_mem))
  case fin =>
    rintro m' n' tl te ⟨h1, h2, h3⟩ hm
    obtain ⟨rest, rfl⟩ := canon3 h1 h2 h3
    generalize hp : moveOf n = p at *
    refine ListRest.zero fun h' tk' F' N' => ?_
    clear N' hm
    have N0 : News s.heap s.heap.objs.size h' [] := News.nil
    k_steps
    all_goals exact end_by (s := s) hret (by assumption) (GOk.refl _) (end_list2 (by assumption) (List.Mem.head _) rfl rfl)
theorem move_spec (w : World) (mg mb : Str → Option Value) (n : Int) (t : Tok) :
    Spec w mg mb 20 136 [.int n t] (fun _ => True) (List2 (moveOf n).1 (moveOf n).2) :=
  fun s Q E X T _ hret => move_spec0 w mg mb s Q E n t X T hret
end Mine

end
section
open PySem PySem.W PySem.Calls PyProof.Rows
set_option Elab.async false
set_option linter.unusedVariables false
namespace Mine
/-- one piece with what was heard of it -/
noncomputable def Told (h : Heap) (a : Addr) (p : Str) (lo en : Int) : Prop := ∃ r tp t1 t2, h.IsList a #[.str p tp, .ref r] ∧ h.IsList r #[.int lo t1, .int en t2]
theorem Told.keep {h h' : Heap} {a : Addr} {p : Str} {lo en : Int} (x : Told h a p lo en) (k : Kp h h') : Told h' a p lo en :=
  let ⟨r, tp, t1, t2, a1, a2⟩ := x; ⟨r, tp, t1, t2, isList_keep a1 k, isList_keep a2 k⟩
noncomputable def ltP (a b : Int × Int) : Bool := decide (a.1 < b.1 ∨ (a.1 = b.1 ∧ a.2 < b.2))
noncomputable def turnOf (a b : Int × Int) : Int := (if ltP b a then 1 else 0) - (if ltP a b then 1 else 0)

theorem turn_eq (a b : Int × Int) : b2i (decide (a.1 > b.1 ∨ a.1 = b.1 ∧ a.2 > b.2)) - b2i (decide (a.1 < b.1 ∨ a.1 = b.1 ∧ a.2 < b.2)) = turnOf a b := by
  have e : decide (a.1 > b.1 ∨ a.1 = b.1 ∧ a.2 > b.2) = ltP b a := by
    unfold ltP
    congr 1
    exact propext ⟨fun h => by (first | lia | omega), fun h => by (first | lia | omega)⟩
  rw [e]
  rfl
local macro_rules | `(tactic| walk_at "call ref") => `(tactic| (k_here; (with_reducible show wpAny _ _ (call (Value.ref 122) [Value.ref _]) _ _ _); refine' Spec.use (rank_spec _ _ _ _ _ _ _ _) ?k1 ?k2 ?k3 ?k4 ?k5 ?k6 ?k7 ?k8 ?_; (case k1 => k_asm); (case k2 => k_asm); (case k3 => k_asm); (case k4 => k_asm); (case k5 => first | assumption | exact isList_keep (by assumption) (Fr.keep (by assumption))); (case k6 => exact rfl); (case k7 => exact Nat.le_of_ble_eq_true rfl); (case k8 => exact Nat.le_of_ble_eq_true rfl); intro v' h' tk' g' kp' go' po' F' N'; obtain ⟨a', t1', t2', e', nl'⟩ := po'; subst e'; obtain ⟨n', N2', ne'⟩ := NewList.news nl' (by assumption) (by assumption) N'; (simp only [AllNe, and_true] at ne'); clear N'; (try k_sweep)))

local macro_rules | `(tactic| walk_at "compareOp Lt ref ref") => `(tactic| (k_here; (with_reducible show wpAny _ _ (compareOp CmpOp.Lt (Value.ref _) (Value.ref _)) _ _ _); (refine' cmp_lt ?k1 ?k2 ?k3 ?_; (case k1 => exact isList_of_news (by k_asm) (by k_mem)); (case k2 => exact isList_of_news (by k_asm) (by k_mem)); (case k3 => exact Nat.le_of_ble_eq_true rfl))))
local macro_rules | `(tactic| walk_at "compareOp Gt ref ref") => `(tactic| (k_here; (with_reducible show wpAny _ _ (compareOp CmpOp.Gt (Value.ref _) (Value.ref _)) _ _ _); (refine' cmp_gt ?k1 ?k2 ?k3 ?_; (case k1 => exact isList_of_news (by k_asm) (by k_mem)); (case k2 => exact isList_of_news (by k_asm) (by k_mem)); (case k3 => exact Nat.le_of_ble_eq_true rfl))))
set_option maxRecDepth 100000 in
set_option maxHeartbeats 8000000 in
theorem turn_spec0 : ∀ (w : World) (mg mb : Str → Option Value) (s : Shared) (Q E : Value → Shared → Prop) (a b : Addr) (p1 p2 : Str) (l1 e1 l2 e2 : Int),
    (Mine.K2 w.params).In s.heap → TopRead Mine.myView LS mg mb s.heap → Told s.heap a p1 l1 e1 → Told s.heap b p2 l2 e2 → (∀ (v : Value) (h' : Heap) (tk : Nat) (g' : Array GenState), Kp s.heap h' → GOk s.gens g' → (IntIs (turnOf (rankOf l1 e1) (rankOf l2 e2))) s.heap v h' → Q v { s with heap := h', toks := tk, gens := g' }) →
    wpAny (model PySem.Challenge.rw_om0053_01.prog w) (AA 19) (call (.ref 129) [.ref a, .ref b]) Q E s := by
  k_fill
  intro w mg mb s Q E a b p1 p2 l1 e1 l2 e2 X T hl1 hl2 hret
  obtain ⟨r1, tp1, t11, t12, hA, hA2⟩ := hl1
  obtain ⟨r2, tp2, t21, t22, hB, hB2⟩ := hl2
  refine wpAny_call ?_
  k_dflt (refine' call_plain (binds := [(Str.ofString "one", .ref a), (Str.ofString "two", .ref b)]) ?k1 ?k2 ?k3 ?k4 ?k5 ?k6 ?k7 ?_ ?c1 ?c2 ?c3 ?c4; (case k2 => exact X _ _ (by k_is)); (case k3 => exact rfl); (case k1 => decide); (case k4 => exact T.nolimit); (case k5 => exact codeRec_of X (by k_is)); (case k6 => exact rfl); (case k7 => exact locs rfl); (case c1 => exact rfl); (case c2 => exact rfl); (case c3 => exact rfl); (case c4 => decide))
  intro h1 F1
  k_fold
  have N1 : News s.heap s.heap.objs.size h1 [] := News.nil
  k_steps
  all_goals exact end_by (s := s) hret (by assumption) (by intro hb; solve_by_elim (maxDepth := 30)) (end_int (turn_eq _ _))
theorem turn_spec (w : World) (mg mb : Str → Option Value) (a b : Addr) (p1 p2 : Str) (l1 e1 l2 e2 : Int) :
    Spec w mg mb 19 129 [.ref a, .ref b] (fun h => Told h a p1 l1 e1 ∧ Told h b p2 l2 e2) (IntIs (turnOf (rankOf l1 e1) (rankOf l2 e2))) :=
  fun s Q E X T hp hret => turn_spec0 w mg mb s Q E a b p1 p2 l1 e1 l2 e2 X T hp.1 hp.2 hret
end Mine

end
section
open PySem PySem.W PySem.Calls PyProof.Rows
set_option Elab.async false
set_option linter.unusedVariables false
namespace Mine
open PySem.AutoSeq1 (wpAny_loadPart')
section
variable {prog : Program} {w : World} {A : Around} {E : Value → Shared → Prop} {s : Shared}
/-- next of a text's iterator, called from within -/
theorem nextA_item {it : Addr} {x : Str} {t : Tok} {i c : Nat} {Q : Value → Shared → Prop} (hit : s.heap.IsStrIter it "str_ascii_iterator" x t i) (hx : x.cps[i]? = some c)
    (hQ : ∀ h' tk tc, h'.IsStrIter it "str_ascii_iterator" x t (i + 1) → Heap.SameBut it s.heap h' → Q (.str ⟨#[c]⟩ tc) { s with heap := h', toks := tk }) :
    wpAny (model prog w) A (Builtin.SmallTypes.nextOf (.ref it)) Q E s := by
  obtain ⟨o, ho, hc, hd⟩ := id hit
  unfold Builtin.SmallTypes.nextOf
  refine wpAny_bind (wpAny_callSpecial?_slot (name := Str.ofString "__next__") hit.typeIs F.slot_str_ascii_iterator_next
    (wpAny_call_entry F.slot_str_ascii_iterator_next hit.typeIs F.entry_str_ascii_iterator_next ?_ (F.args_str_ascii_iterator_next_1 _)))
  show wpAny _ _ (field (.ref it) 0 >>= _) _ _ s
  refine wpAny_bind (wpAny_field ho hd (x := .str x t) rfl ?_)
  show wpAny _ _ (field (.ref it) 1 >>= _) _ _ s
  refine wpAny_bind (wpAny_field ho hd (x := .int i 0) rfl ?_)
  simp only [Int.toNat_natCast, hx]
  refine wpAny_bind (wpAny_setField ho hd (by simp) (wpAny_bind (wpAny_mkStr (wpAny_pure ⟨_, rfl, wpAny_pure (hQ _ _ _ ?_ (Heap.SameBut.update ..))⟩) (by show 1 ≤ sizeLine; decide))))
  exact ⟨_, Heap.get?_update_self _ ho (Obj.isFreed_of_fields (Obj.data_mapFields hd _)), (Obj.cls_mapFields ..).trans hc, by
    rw [Obj.data_mapFields hd]; simp [rawInt]⟩
theorem nextA_end {it : Addr} {x : Str} {t : Tok} {i : Nat} {Q : Value → Shared → Prop} (hh : A.handled = none) (hit : s.heap.IsStrIter it "str_ascii_iterator" x t i) (hx : x.cps[i]? = none)
    (hE : ∀ h' e, Heap.ExtBut it s.heap h' → (∃ o, h'.get? e = some o ∧ o.cls = .type "StopIteration") → E (.ref e) { s with heap := h' }) :
    wpAny (model prog w) A (Builtin.SmallTypes.nextOf (.ref it)) Q E s := by
  obtain ⟨o, ho, hc, hd⟩ := id hit
  unfold Builtin.SmallTypes.nextOf
  refine wpAny_bind (wpAny_callSpecial?_slot (name := Str.ofString "__next__") hit.typeIs F.slot_str_ascii_iterator_next
    (wpAny_call_entry F.slot_str_ascii_iterator_next hit.typeIs F.entry_str_ascii_iterator_next ?_ (F.args_str_ascii_iterator_next_1 _)))
  show wpAny _ _ (field (.ref it) 0 >>= _) _ _ s
  refine wpAny_bind (wpAny_field ho hd (x := .str x t) rfl ?_)
  show wpAny _ _ (field (.ref it) 1 >>= _) _ _ s
  refine wpAny_bind (wpAny_field ho hd (x := .int i 0) rfl ?_)
  simp only [Int.toNat_natCast, hx]
  refine wpAny_bind (wpAny_rule (wpAny_bind (wpAny_setField ho hd (by simp) (wpAny_bind (wpAny_letGo ?_)))))
  show wpAny _ _ (newExc (.type "StopIteration") [] >>= _) _ _ _
  refine wpAny_bind ?_
  simp only [newExc, newTuple]
  refine wpAny_bind (wpAny_newObj_type ?_ (by size_fits))
  refine wpAny_bind (m := firstArgMember _ _) (wpAny_of_eq (a := Value.none) (by first | rfl | (simp only [firstArgMember]; rfl)) ?_)
  refine wpAny_newObj_type ?_ (by size_fits)
  simp only [raiseNew]
  refine wpAny_bind (wpAny_handled ?_)
  rw [show A.in1.handled = none from hh]
  refine wpAny_bind (wpAny_pure (wpAny_throw ?_))
  exact hE _ _ (((Heap.SameBut.update ..).extBut.push _).push _) ⟨_, Heap.get?_push_size _ rfl, rfl⟩
/-- next of enumerate over a text -/
theorem enumA_item {e it : Addr} {i c : Nat} {x : Str} {t : Tok} {old : Value} {Q : Option Value → Shared → Prop}
    (he : IsEnum s.heap e it i old) (hit : s.heap.IsStrIter it "str_ascii_iterator" x t i) (hx : x.cps[i]? = some c) (hne : e ≠ it)
    (hQ : ∀ h' tk tc ti T, s.heap.get? T = none → IsEnumOut h' e it ((i : Int) + 1) (.str ⟨#[c]⟩ tc) T → h'.IsStrIter it "str_ascii_iterator" x t (i + 1) →
      h'.get? T = some { cls := .type "tuple", data := .seq #[.int i ti, .str ⟨#[c]⟩ tc] } →
      (∀ b o, b ≠ e → b ≠ it → s.heap.get? b = some o → h'.get? b = some o) → Q (some (.ref T)) { s with heap := h', toks := tk }) :
    wpAny (model prog w) A (pyNext (.ref e)) Q E s := by
  have hT : s.TypeIs (.ref e) "enumerate" := ⟨_, he, rfl⟩
  unfold pyNext
  refine wpAny_bind (wpAny_attempt (wpAny_callSpecial?_slot (name := Str.ofString "__next__") hT F.slot_enumerate_next
    (wpAny_call_entry F.slot_enumerate_next hT F.entry_enumerate_next ?_ (F.args_enumerate_next_1 _))))
  obtain ⟨hp, g, d, tk, os⟩ := s
  show wpAny _ _ (field (.ref e) 2 >>= _) _ _ _
  refine wpAny_bind (wpAny_field he rfl (x := .ref it) rfl ?_)
  refine wpAny_bind (nextA_item hit hx fun h₁ tk₁ tc hit₁ hs₁ => ?_)
  replace hs₁ : Heap.SameBut it hp h₁ := hs₁
  have he₁ : IsEnum h₁ e it i old := (hs₁.2 e hne).trans he
  have hel : e < hp.objs.size := Heap.lt_size he
  have hnone : hp.get? hp.objs.size = none := by
    cases q : hp.get? hp.objs.size with
    | none => rfl
    | some o => exact absurd (Heap.lt_size q) (Nat.lt_irrefl _)
  show wpAny _ _ (field (.ref e) 3 >>= _) _ _ ⟨h₁, g, d, tk₁, os⟩
  refine wpAny_bind (wpAny_field he₁ rfl (x := rawInt i) rfl ?_)
  show wpAny _ _ (field (.ref e) 4 >>= _) _ _ ⟨h₁, g, d, tk₁, os⟩
  refine wpAny_bind (wpAny_field he₁ rfl (x := .none) rfl ?_)
  show wpAny _ _ (mkInt i >>= _) _ _ ⟨h₁, g, d, tk₁, os⟩
  refine wpAny_bind (wpAny_mkInt ?_)
  show wpAny _ _ (setField (.ref e) 3 (rawInt ((i : Int) + 1)) >>= _) _ _ ⟨h₁, g, d, tk₁ + 1, os⟩
  refine wpAny_bind (wpAny_setField_rec he₁ (by simp) fun h₂ he₂ hs₂ => ?_)
  replace hs₂ : Heap.SameBut e h₁ h₂ := hs₂
  replace he₂ : IsEnum h₂ e it ((i : Int) + 1) old := he₂
  show wpAny _ _ (setField (.ref e) 4 .none >>= _) _ _ ⟨h₂, g, d, tk₁ + 1, os⟩
  refine wpAny_bind (wpAny_setField_rec he₂ (by simp) fun h₃ he₃ hs₃ => ?_)
  replace hs₃ : Heap.SameBut e h₂ h₃ := hs₃
  replace he₃ : IsEnum h₃ e it ((i : Int) + 1) old := he₃
  show wpAny _ _ (newTuple [.int i tk₁, .str ⟨#[c]⟩ tc] >>= _) _ _ ⟨h₃, g, d, tk₁ + 1, os⟩
  refine wpAny_bind (wpAny_newTuple ?_)
  have hsz : h₃.objs.size = hp.objs.size := by rw [hs₃.1, hs₂.1, hs₁.1]
  have k₃ : ∀ b o, b ≠ e → b ≠ it → hp.get? b = some o → h₃.get? b = some o := fun b o b1 b2 q => hs₃.extBut b o b1 (hs₂.extBut b o b1 (hs₁.extBut b o b2 q))
  have hit₃ : h₃.IsStrIter it "str_ascii_iterator" x t (i + 1) := (hit₁.extBut hs₂.extBut (Ne.symm hne)).extBut hs₃.extBut (Ne.symm hne)
  have hT₃ : e ≠ h₃.objs.size := by rw [hsz]; exact Nat.ne_of_lt hel
  have hI₃ : it ≠ h₃.objs.size := by obtain ⟨o, ho, _⟩ := hit₃; exact Nat.ne_of_lt (Heap.lt_size ho)
  have he₄ : IsEnum (h₃.push { cls := .type "tuple", data := .seq #[.int i tk₁, .str ⟨#[c]⟩ tc] }) e it ((i : Int) + 1) old := Heap.get?_push_of_some _ he₃
  have ht₄ : (h₃.push { cls := .type "tuple", data := .seq #[.int i tk₁, .str ⟨#[c]⟩ tc] }).get? h₃.objs.size = some { cls := .type "tuple", data := .seq #[.int i tk₁, .str ⟨#[c]⟩ tc] } := Heap.get?_push_size _ rfl
  have k₄ : ∀ b o, b ≠ e → b ≠ it → hp.get? b = some o → (h₃.push { cls := .type "tuple", data := .seq #[.int i tk₁, .str ⟨#[c]⟩ tc] }).get? b = some o := fun b o b1 b2 q => Heap.get?_push_of_some _ (k₃ b o b1 b2 q)
  have hit₄ : (h₃.push { cls := .type "tuple", data := .seq #[.int i tk₁, .str ⟨#[c]⟩ tc] }).IsStrIter it "str_ascii_iterator" x t (i + 1) := by
    obtain ⟨o, ho, r⟩ := hit₃; exact ⟨o, Heap.get?_push_of_some _ ho, r⟩
  have hnone₃ : hp.get? h₃.objs.size = none := by rw [hsz]; exact hnone
  generalize h₃.push { cls := .type "tuple", data := .seq #[.int i tk₁, .str ⟨#[c]⟩ tc] } = h₄ at he₄ ht₄ k₄ hit₄ ⊢
  generalize h₃.objs.size = T at hT₃ hI₃ ht₄ hnone₃ ⊢
  show wpAny _ _ (Builtin.SmallTypes.ownedTupleIsFree (.ref e) >>= _) _ _ ⟨h₄, g, d, tk₁ + 1, os⟩
  refine wpAny_bind ?_
  unfold Builtin.SmallTypes.ownedTupleIsFree
  refine wpAny_bind (wpAny_field he₄ rfl (x := .none) rfl (wpAny_pure ?_))
  simp only [if_true]
  refine wpAny_bind (wpAny_rule ?_)
  refine wpAny_bind (wpAny_field he₄ rfl (x := old) rfl ?_)
  refine wpAny_bind (wpAny_setField_rec he₄ (by simp) fun h₅ he₅ hs₅ => ?_)
  replace hs₅ : Heap.SameBut e h₄ h₅ := hs₅
  replace he₅ : IsEnum h₅ e it ((i : Int) + 1) (.str ⟨#[c]⟩ tc) := he₅
  show wpAny _ _ (Builtin.SmallTypes.ownedTupleHandOut (.ref e) (.ref T) >>= _) _ _ ⟨h₅, g, d, tk₁ + 1, os⟩
  refine wpAny_bind ?_
  unfold Builtin.SmallTypes.ownedTupleHandOut
  refine wpAny_bind (wpAny_setField_rec he₅ (by simp) fun h₆ he₆ hs₆ => ?_)
  replace hs₆ : Heap.SameBut e h₅ h₆ := hs₆
  replace he₆ : IsEnumOut h₆ e it ((i : Int) + 1) (.str ⟨#[c]⟩ tc) T := he₆
  refine wpAny_setField_rec he₆ (by simp) fun h₇ he₇ hs₇ => ?_
  replace hs₇ : Heap.SameBut e h₆ h₇ := hs₇
  replace he₇ : IsEnumOut h₇ e it ((i : Int) + 1) (.str ⟨#[c]⟩ tc) T := he₇
  refine wpAny_bind (wpAny_letGo (wpAny_pure ⟨_, rfl, wpAny_pure (hQ h₇ _ tc tk₁ T hnone₃ he₇ ?_ ?_ ?_)⟩))
  · exact ((hit₄.extBut hs₅.extBut (Ne.symm hne)).extBut hs₆.extBut (Ne.symm hne)).extBut hs₇.extBut (Ne.symm hne)
  · exact hs₇.extBut _ _ (Ne.symm hT₃) (hs₆.extBut _ _ (Ne.symm hT₃) (hs₅.extBut _ _ (Ne.symm hT₃) ht₄))
  · exact fun b o hbe hbi hb => hs₇.extBut b o hbe (hs₆.extBut b o hbe (hs₅.extBut b o hbe (k₄ b o hbe hbi hb)))
theorem enumA_end {e it : Addr} {i : Nat} {x : Str} {t : Tok} {old : Value} {Q : Option Value → Shared → Prop} (hh : A.handled = none)
    (he : IsEnum s.heap e it i old) (hit : s.heap.IsStrIter it "str_ascii_iterator" x t i) (hx : x.cps[i]? = none)
    (hQ : ∀ h', Heap.ExtBut it s.heap h' → Q none { s with heap := h' }) : wpAny (model prog w) A (pyNext (.ref e)) Q E s := by
  have hT : s.TypeIs (.ref e) "enumerate" := ⟨_, he, rfl⟩
  unfold pyNext
  refine wpAny_bind (wpAny_attempt (wpAny_callSpecial?_slot (name := Str.ofString "__next__") hT F.slot_enumerate_next
    (wpAny_call_entry F.slot_enumerate_next hT F.entry_enumerate_next ?_ (F.args_enumerate_next_1 _))))
  show wpAny _ _ (field (.ref e) 2 >>= _) _ _ _
  refine wpAny_bind (wpAny_field he rfl (x := .ref it) rfl ?_)
  refine wpAny_bind (nextA_end hh hit hx fun h' x he' hx' => ?_)
  obtain ⟨o, ho, hc⟩ := hx'
  refine wpAny_bind (wpAny_isInstance (T := "StopIteration") (b := true) ⟨o, ho, hc⟩ isSubtype_stop ?_)
  exact wpAny_pure (hQ _ he')
end
end Mine

end
section
open PySem PySem.W PySem.Calls PyProof.Rows
set_option Elab.async false
set_option linter.unusedVariables false
namespace Mine
open PySem.W.X
section
variable {prog : Program} {w : World} {A : Around} {c : Code} {fs : List Frame} {s : Shared} {P : End → Shared → Prop} {env : Env}
  {K : Flow → Sem Fin} {H : Value → Sem Fin} {gd : Bool → Bool} {lv : List Value → List Value}
noncomputable abbrev Never : Value → Shared → Prop := fun _ _ => False
theorem sx_wrap {α : Type} {m : Sem α} {K : α → Sem Fin} {H : Value → Sem Fin} {gd : Bool → Bool} {lv : List Value → List Value}
    (h : wpAny (model prog w) (A.over c fs) m (fun a s' => SegX (model prog w) A c (K a) fs s' P) Never s) : SegX (model prog w) A c (m.wrap K H gd lv) fs s P := by
  rintro Γ p rfl hΓ
  obtain ⟨e, s', hr, hq⟩ := runs_wrap_of_wp (Φ := fun e s' => e.quiet = true ∧ P e s') K H gd lv m (h (Γ.over fs) p (hΓ.over fs)) (fun a p' s' h' => h' Γ p' rfl hΓ) (fun x p' s' h' => h'.elim)
  exact ⟨e, s', hr, hq⟩
theorem sx_bind {α : Type} {m : Sem α} {f : α → Sem Flow} (h : wpAny (model prog w) (A.over c fs) m (fun a s' => SegX (model prog w) A c ((f a).wrap K H gd lv) fs s' P) Never s) :
    SegX (model prog w) A c ((m >>= f).wrap K H gd lv) fs s P := by
  rw [Sem.bind_eq_wrap', Sem.wrap_wrap]
  exact sx_wrap h
theorem sx_cons {st : Stmt} {rest : List Stmt} (h : SegX (model prog w) A c ((exec st env).wrap (fun f => match f with | .next => (execs rest env).wrap K H gd lv | f => K f) H gd lv) fs s P) :
    SegX (model prog w) A c ((execs (st :: rest) env).wrap K H gd lv) fs s P := by rw [execs_cons_wrap]; exact h
theorem sx_nil (h : SegX (model prog w) A c (K .next) fs s P) : SegX (model prog w) A c ((execs [] env).wrap K H gd lv) fs s P := h
theorem sx_If {test : Expr} {body orelse : List Stmt} {pos : Pos}
    (h : wpAny (model prog w) (A.over c fs) (isTrue test env (eval test env)) (fun b s' => if b = true then SegX (model prog w) A c ((execs body env).wrap K H gd lv) fs s' P else SegX (model prog w) A c ((execs orelse env).wrap K H gd lv) fs s' P) Never s) :
    SegX (model prog w) A c ((exec (.If test body orelse pos) env).wrap K H gd lv) fs s P := by
  rw [exec_If]
  refine sx_bind (wpAny_standAt (sx_bind (wpAny_mono h (fun b s' hb => ?_) fun _ _ x => x)))
  cases b <;> exact hb
theorem sx_Yield {e : Expr} {ypos pos : Pos} (hfs : splitAtGen fs = none) (hgd : gd false = false) (hfg : fs.any Frame.guarded = false)
    (h : wpAny (model prog w) (A.over c fs) (eval e env) (fun v s' => ∀ l k p, (∀ s'' P2, SegX (model prog w) A c (K .next) fs s'' P2 → SegX (model prog w) A c (k (.send .none)) fs s'' P2) → P (.susp v false l k c p fs) s') Never s)
    (hco : env.scope.isCoroutine = false) (hi : interactive env = false) :
    SegX (model prog w) A c ((exec (.Expr (.Yield (some e) ypos) pos) env).wrap K H gd lv) fs s P := by
  rw [exec_Expr env _ pos hi rfl]
  have hy : ∀ v, yieldOut env v = yieldValue v := fun v => by simp only [yieldOut, hco, Bool.false_eq_true, if_false]
  refine sx_bind (wpAny_standAt ?_)
  show SegX (model prog w) A c (((eval e env >>= fun v => (standAt ypos >>= fun _ => yieldOut env v)) >>= fun x => dropValue (.Yield (some e) ypos) pos x).wrap K H gd lv) fs s P
  simp only [hy]
  rw [Sem.bind_eq_wrap', Sem.bind_eq_wrap', Sem.wrap_wrap, Sem.wrap_wrap]
  refine sx_wrap (wpAny_mono h (fun v s' h' => ?_) fun _ _ x => x)
  refine s_skim _ _ _ _ _ _ _ _ 1 ?_
  show SegX (model prog w) A c (.yield v (gd false) _ _) fs s' P
  rw [hgd]
  exact s_yield _ _ _ _ _ _ _ _ _ _ hfs hfg fun p => h' _ _ p fun s'' P2 x => x
theorem sx_func {body : List Stmt} (h : SegX (model prog w) A (.func body env) ((execs body env).wrap (fun f => .pure (.done (.ret (match f with | .ret v => v | _ => .none)))) (fun e => (leaving env e).wrap (fun _ => .raise e) .raise id id) id id) fs s P) :
    SegX (model prog w) A (.func body env) (denote table (.func body env)) fs s P := by
  show SegX _ A _ (.point [] fun _ => ((execs body env).onRaise (leaving env)) >>= _) fs s P
  refine s_skim _ _ _ _ _ _ _ _ 1 ?_
  show SegX _ A _ (((execs body env).onRaise (leaving env)) >>= _) fs s P
  rw [Sem.onRaise_eq_wrap, Sem.bind_eq_wrap', Sem.wrap_wrap]
  rw [Sem.wrap_congr (execs body env) _ _ (K' := fun f => .pure (.done (.ret (match f with | .ret v => v | _ => .none))))
    (H' := fun e => (leaving env e).wrap (fun _ => .raise e) .raise id id) (fun f => by cases f <;> rfl)
    (fun e => by rw [Sem.bind_eq_wrap, Sem.wrap_wrap]; rfl)]
  exact h
theorem sx_block_nil (h : SegX (model prog w) A c (.pure (.done .next)) fs s P) (hc : c = .block [] env) : SegX (model prog w) A c (denote table (.block [] env)) fs s P := by
  subst hc
  exact h
theorem sx_For {target iter : Expr} {body orelse : List Stmt} {pos : Pos}
    (h : wpAny (model prog w) (A.over c fs) (eval iter env) (fun x s₁ => wpAny (model prog w) (A.over c fs) (pyIter x) (fun it s₂ =>
      ∀ p (k : Result → Sem Fin), k (.ok .next) = K .next → SegX (model prog w) A (.forLoop target it body orelse env) (denote table (.forLoop target it body orelse env)) (.ret k none (gd false) (lv []) c p [] :: fs) s₂ P) Never s₁) Never s)
    (hs : ∀ x, foldedSetIterable iter env x = pure x) :
    SegX (model prog w) A c ((exec (.For target iter body orelse pos) env).wrap K H gd lv) fs s P := by
  rw [exec_For]
  refine sx_bind (wpAny_standAt (sx_bind (wpAny_mono h (fun x s₁ h₁ => ?_) fun _ _ x => x)))
  refine sx_bind (wpAny_of_eq (hs x) (sx_bind (wpAny_standAt (sx_bind (wpAny_holding (wpAny_mono h₁ (fun it s₂ h₂ => ?_) fun _ _ x => x))))))
  refine s_call _ _ _ _ _ _ _ _ _ _ _ _ fun p => ?_
  exact h₂ p _ rfl
theorem sx_turn {target : Expr} {it : Value} {body : List Stmt}
    (h : wpAny (model prog w) (A.over (.forLoop target it body [] env) fs) (pyNext it) (fun r s₁ => match r with
      | none => SegX (model prog w) A (.block [] env) (.pure (.done .next)) fs s₁ P
      | some v => wpAny (model prog w) (A.over (.forLoop target it body [] env) fs) (letOwnedTupleGo target it v) (fun _ s₂ =>
          wpAny (model prog w) (A.over (.forLoop target it body [] env) fs) (assign target env v) (fun _ s₃ =>
            ∀ (K : Flow → Sem Fin) (H : Value → Sem Fin), K .next = .pure (.again (.forLoop target it body [] env)) → SegX (model prog w) A (.forLoop target it body [] env) ((execs body env).wrap K H id id) fs s₃ P) Never s₂) Never s₁) Never s) :
    SegX (model prog w) A (.forLoop target it body [] env) (denote table (.forLoop target it body [] env)) fs s P := by
  show SegX _ A _ ((forTurn target it body [] env).onRaise (fun x => do noteFrame x env; theTreesLotGoes x)) fs s P
  unfold forTurn
  rw [Sem.onRaise_eq_wrap, Sem.bind_eq_wrap', Sem.wrap_wrap]
  refine sx_wrap (wpAny_standAt ?_)
  rw [Sem.bind_eq_wrap', Sem.onRaise_eq_wrap, Sem.wrap_wrap, Sem.wrap_wrap]
  refine sx_wrap (wpAny_mono h (fun r s₁ h₁ => ?_) fun _ _ x => x)
  cases r with
  | none => exact s_again _ _ _ _ _ _ _ _ rfl (sx_block_nil h₁ rfl)
  | some v =>
    show SegX _ A _ (Sem.wrap _ _ _ _ (letOwnedTupleGo target it v >>= _)) fs s₁ P
    rw [Sem.bind_eq_wrap', Sem.wrap_wrap]
    refine sx_wrap (wpAny_mono h₁ (fun _ s₂ h₂ => ?_) fun _ _ x => x)
    rw [Sem.bind_eq_wrap', Sem.wrap_wrap]
    refine sx_wrap (wpAny_mono h₂ (fun _ s₃ h₃ => ?_) fun _ _ x => x)
    rw [Sem.bind_eq_wrap', Sem.wrap_wrap]
    exact h₃ _ _ rfl
end
end Mine

end
section
open PySem PySem.W PySem.Calls PyProof.Rows
set_option Elab.async false
set_option linter.unusedVariables false
namespace Mine
open PySem.W.X
@[reducible] noncomputable def AG : Around := AA 25
/-- what _iter_escaped_chars gives: from place i on, the last sign a backslash or not -/
noncomputable def escFrom : Nat → Bool → List Nat → List (Int × Str)
  | i, true, [] => [(((i - 1 : Nat) : Int), ⟨#[92]⟩)]
  | _, false, [] => []
  | i, true, c :: r => ((i : Int), ⟨#[92, c]⟩) :: escFrom (i + 1) false r
  | i, false, c :: r => if c = 92 then escFrom (i + 1) true r else ((i : Int), ⟨#[c]⟩) :: escFrom (i + 1) false r
noncomputable def escItems (x : Str) : List (Int × Str) := escFrom 0 false x.cps.toList
noncomputable def OwnAt (own : List (Addr × Obj)) (h : Heap) : Prop := ∀ p ∈ own, h.get? p.1 = some p.2
structure Mv (ad : List Addr) (s s' : Shared) : Prop where
  keep : ∀ b o, b ∉ ad → s.heap.get? b = some o → s'.heap.get? b = some o
  gens : s'.gens = s.gens
  drawn : s'.drawn = s.drawn
  os : s'.os = s.os
theorem Mv.refl (ad : List Addr) (s : Shared) : Mv ad s s := ⟨fun _ _ _ e => e, rfl, rfl, rfl⟩
theorem Mv.trans {ad : List Addr} {s s' s'' : Shared} (x : Mv ad s s') (y : Mv ad s' s'') : Mv ad s s'' :=
  ⟨fun b o hb e => y.keep b o hb (x.keep b o hb e), y.gens.trans x.gens, y.drawn.trans x.drawn, y.os.trans x.os⟩
noncomputable def tupObj (i : Int) (c : Str) (t1 t2 : Tok) : Obj := { cls := .type "tuple", data := .seq #[.int i t1, .str c t2] }
noncomputable def GP (w : World) : List (Int × Str) → List Addr → Shared → End → Shared → Prop
  | [], ad, s, e, s' => e = .ret (.ok (.ret .none)) ∧ Mv ad s s'
  | (i, c) :: r, ad, s, e, s' => Mv ad s s' ∧ ∃ T t1 t2 l k c' q fs own', e = .susp (.ref T) false l k c' q fs ∧ s.heap.get? T = none ∧ s'.heap.get? T = some (tupObj i c t1 t2) ∧ own'.length = 3 ∧
      (∀ p ∈ own', p.1 ≠ T) ∧ OwnAt own' s'.heap ∧ (∀ p ∈ own', p.1 ∈ ad ∨ s.heap.get? p.1 = none) ∧
      ∀ s'', OwnAt own' s''.heap → SegX (model PySem.Challenge.rw_om0053_01.prog w) AG c' (k (.send .none)) fs s'' (GP w r (own'.map (·.1)) s'')
/-- a silent part ahead -/
theorem GP.ahead {w : World} {items : List (Int × Str)} {ad ad' : List Addr} {s s₁ : Shared} {e : End} {s' : Shared} (m : Mv ad s s₁) (hs : ∀ b ∈ ad', b ∈ ad ∨ s.heap.get? b = none) (hd : ∀ b ∈ ad, s₁.heap.get? b ≠ none) (h : GP w items ad' s₁ e s') : GP w items ad s e s' := by
  have none_back : ∀ b, s₁.heap.get? b = none → s.heap.get? b = none := fun b hb => by
    cases q : s.heap.get? b with
    | none => rfl
    | some o =>
      by_cases hm : b ∈ ad
      · exact absurd hb (hd b hm)
      · rw [m.keep b o hm q] at hb; cases hb
  have mv : ∀ {s'}, Mv ad' s₁ s' → Mv ad s s' := fun {s'} y => ⟨fun b o hb q => y.keep b o (fun hm => by
    rcases hs b hm with h1 | h1
    · exact hb h1
    · rw [q] at h1; cases h1) (m.keep b o hb q), y.gens.trans m.gens, y.drawn.trans m.drawn, y.os.trans m.os⟩
  cases items with
  | nil => exact ⟨h.1, mv h.2⟩
  | cons p r =>
    obtain ⟨i, c⟩ := p
    obtain ⟨hm, T, t1, t2, l, k, c', q, fs, own', e1, e2, e3, e0, e4, e5, e6, e7⟩ := h
    refine ⟨mv hm, T, t1, t2, l, k, c', q, fs, own', e1, none_back _ e2, e3, e0, e4, e5, fun p hp => ?_, e7⟩
    rcases e6 p hp with h1 | h1
    · exact hs _ h1
    · exact .inr (none_back _ h1)
noncomputable def Wk (w : World) (gs : GenState) (s : Shared) (P : End → Shared → Prop) : Prop := match gs with
  | .fresh c => SegX (model PySem.Challenge.rw_om0053_01.prog w) AG c (denote table c) [] s P
  | .suspended k _ c _ fs _ => SegX (model PySem.Challenge.rw_om0053_01.prog w) AG c (k (.send .none)) fs s P
  | _ => False
structure GenSt (w : World) (mg mb : Str → Option Value) (a : Addr) (g : Nat) (own : List (Addr × Obj)) (items : List (Int × Str)) (s : Shared) : Prop where
  isgen : s.heap.IsGen a g
  held : OwnAt own s.heap
  run : ∃ gs, s.gens[g]? = some gs ∧ ∀ s'', (Mine.K2 w.params).In s''.heap → TopRead Mine.myView LS mg mb s''.heap → OwnAt own s''.heap → Wk w gs s'' (GP w items (own.map (·.1)) s'')
theorem segx_lower {M : Model} {A : Around} {c : Code} {t : Sem Fin} {fs : List Frame} {s : Shared} {P : End → Shared → Prop} (k : Nat) (x : SegX M (AA k) c t fs s P) (hh : A.handled = none) (hd : A.depth ≤ 400 + 20 * k) (hu : A.units ≤ 500 + 300 * k) : SegX M A c t fs s P :=
  fun Γ p hc hΓ => x Γ p hc ⟨⟨hΓ.1.1.trans hh, Nat.le_trans hΓ.1.2.1 hd, fun l hl => (nomatch hl), fun g hg => (nomatch hg), Nat.le_trans hΓ.1.2.2.2.2 hu⟩, hΓ.2⟩
theorem segx_calm {M : Model} {A : Around} {c : Code} {t : Sem Fin} {fs : List Frame} {s : Shared} {P : End → Shared → Prop} (x : SegX M A c t fs s P) : SegX M A c t fs s (fun e s' => e.quiet = true ∧ P e s') :=
  fun Γ p hc hΓ => let ⟨e, s', a, b, d⟩ := x Γ p hc hΓ; ⟨e, s', a, b, b, d⟩
section
variable {w : World} {mg mb : Str → Option Value} {A : Around} {s : Shared} {E : Value → Shared → Prop}
theorem rs_resume {α : Type} {g : Nat} {gs : GenState} {l : List Value} {k : GenResult → Sem α} {Q : α → Shared → Prop} {P : End → Shared → Prop} (hg : s.gens[g]? = some gs)
    (hw : Wk w gs (s.setGen g .running) P) (hh : A.handled = none) (hd : A.depth ≤ 900) (hu : A.units ≤ 8000)
    (hf : ∀ e s₁, e.quiet = true → P e s₁ → wpAny (model PySem.Challenge.rw_om0053_01.prog w) A (k e.result) Q E (s₁.setGen g e.genState)) :
    wpAny (model PySem.Challenge.rw_om0053_01.prog w) A (.resume g (.send .none) l k) Q E s := by
  cases gs with
  | fresh c =>
    exact wake_any _ _ _ hg (.inl ⟨rfl, rfl, rfl, rfl⟩) (fun Γ => Γ.In A) (fun _ h => h) (SegX.mono (segx_calm (segx_lower 25 hw hh hd hu)) fun e s₁ h Γ p hC => hf e s₁ h.1 h.2 Γ p hC)
  | suspended k₀ l₀ c₀ p₀ fs₀ cl =>
    exact wake_any _ _ _ hg (.inr ⟨_, _, _, _, rfl, rfl⟩) (fun Γ => Γ.In A) (fun _ h => h) (SegX.mono (segx_calm (segx_lower 25 hw hh hd hu)) fun e s₁ h Γ p hC => hf e s₁ h.1 h.2 Γ p hC)
  | running => exact hw.elim
  | finished => exact hw.elim
theorem gok_set {gens : Array GenState} {g : Nat} {x : GenState} (hx : x.bare = true) : GOk gens (gens.setIfInBounds g x) := fun hb y hy => by
  rcases Array.mem_or_eq_of_mem_setIfInBounds hy with h | h
  · exact hb y h
  · rw [h]; exact hx
/-- one turn of the generator -/
theorem next_gen {a : Addr} {g : Nat} {own : List (Addr × Obj)} {items : List (Int × Str)} {Q : Option Value → Shared → Prop} (G : GenSt w mg mb a g own items s)
    (X : (Mine.K2 w.params).In s.heap) (T : TopRead Mine.myView LS mg mb s.heap) (hh : A.handled = none) (hd : A.depth ≤ 900) (hu : A.units + 1 ≤ 8000)
    (hn : items = [] → ∀ h' tk g', GOk s.gens g' → (∀ b o, b ∉ own.map (·.1) → s.heap.get? b = some o → h'.get? b = some o) → Q none { s with heap := h', toks := tk, gens := g' })
    (hc : ∀ i c r, items = (i, c) :: r → ∀ h' tk g' own' Ta t1 t2, GOk s.gens g' → (∀ b o, b ∉ own.map (·.1) → s.heap.get? b = some o → h'.get? b = some o) →
      s.heap.get? Ta = none → h'.get? Ta = some (tupObj i c t1 t2) → own'.length = 3 → (∀ p ∈ own', p.1 ≠ Ta) → (∀ p ∈ own', p.1 ∈ own.map (·.1) ∨ s.heap.get? p.1 = none) → OwnAt own' h' →
      GenSt w mg mb a g own' r { s with heap := h', toks := tk, gens := g' } → Q (some (.ref Ta)) { s with heap := h', toks := tk, gens := g' })
    (ha : a ∉ own.map (·.1)) : wpAny (model PySem.Challenge.rw_om0053_01.prog w) A (pyNext (.ref a)) Q E s := by
  obtain ⟨gs, hgs, hrun⟩ := G.run
  have hg := G.isgen
  have hw := hrun (s.setGen g .running) X T G.held
  unfold pyNext
  refine wpAny_bind (wpAny_attempt (wpAny_callSpecial?_slot (name := Str.ofString "__next__") hg.typeIs slot_gen_next
    (wpAny_call_entry slot_gen_next hg.typeIs entry_gen_next ?_ (args_gen_next _))))
  show wpAny _ A.in1 (Builtin.Generator.genWake (.ref a) (.send .none)) _ _ s
  unfold Builtin.Generator.genWake
  refine wpAny_bind (wpAny_holding (wpAny_genNumber hg (wpAny_bind (wpAny_genState hgs ?_))))
  have glt : g < s.gens.size := (Array.getElem?_eq_some_iff.mp hgs).1
  have hroom : A.in1.depth < recursionLimit := Nat.lt_of_le_of_lt hd (by decide)
  cases gs with
  | running => exact hw.elim
  | finished => exact hw.elim
  | _ =>
    refine wpAny_bind (wpAny_roomToWake T.nolimit hroom ?_)
    show wpAny _ A.in1 (.resume g (.send .none) [] _) _ _ s
    refine rs_resume hgs hw hh hd hu fun e s₁ he hp => ?_
    cases items with
    | nil =>
      obtain ⟨rfl, k1, k2, k3, k4⟩ := hp
      obtain ⟨h1, g1, d1, t1, o1⟩ := s₁
      dsimp only at k1 k2 k3 k4
      subst k2 k3 k4
      show wpAny _ A.in1 (newExc (.type "StopIteration") [] >>= _) _ _ _
      refine wpAny_bind ?_
      simp only [newExc, newTuple]
      refine wpAny_bind (wpAny_newObj_type ?_ (by size_fits))
      refine wpAny_bind (m := firstArgMember _ _) (wpAny_of_eq (a := Value.none) (by first | rfl | (simp only [firstArgMember]; rfl)) ?_)
      refine wpAny_newObj_type ?_ (by size_fits)
      simp only [raiseNew]
      refine wpAny_bind (wpAny_bind (wpAny_handled ?_))
      rw [show A.in1.handled = none from hh]
      refine wpAny_throw ?_
      refine wpAny_bind (wpAny_isInstance (T := "StopIteration") (b := true) ⟨_, Heap.get?_push_size _ rfl, rfl⟩ isSubtype_stop ?_)
      refine wpAny_pure ?_
      exact hn rfl _ _ _ ((gok_set rfl).trans (gok_set rfl)) fun b o hb q => Heap.get?_push_of_some _ (Heap.get?_push_of_some _ (k1 b o hb q))
    | cons p r =>
      obtain ⟨i, c⟩ := p
      obtain ⟨⟨k1, k2, k3, k4⟩, Ta, t1, t2, l, k, c', q, fs, own', rfl, e2, e3, e0, e4, e5, e6, e7⟩ := hp
      obtain ⟨h1, g1, d1, tk1, o1⟩ := s₁
      dsimp only at k1 k2 k3 k4 e3 e5
      subst k2 k3 k4
      have hb : (End.susp (.ref Ta) false l k c' q fs).genState.bare = true := End.bare_of_quiet he
      refine wpAny_pure ⟨_, rfl, wpAny_pure (hc i c r rfl _ _ _ own' Ta t1 t2 ((gok_set rfl).trans (gok_set hb)) k1 e2 e3 e0 e4 e6 e5 ⟨?_, e5, (End.susp (.ref Ta) false l k c' q fs).genState, ?_, fun s'' _ _ ho => e7 s'' ho⟩)⟩
      · obtain ⟨o, nm, qn, ho, r1⟩ := hg
        exact ⟨o, nm, qn, k1 _ _ ha ho, r1⟩
      · exact setGen_self (s := ⟨h1, (s.setGen g .running).gens, s.drawn, tk1, s.os⟩) (gs := .running) (setGen_self hgs)
end
end Mine

end
section
open PySem PySem.W PySem.Calls PyProof.Rows
set_option Elab.async false
set_option linter.unusedVariables false
namespace Mine
open PySem.W.X
section
variable {prog : Program} {w : World} {A : Around} {E : Value → Shared → Prop} {s : Shared} {env : Env}
theorem assign2 {m : Str → Option Value} {xi xv : Str} {pi pv pt : Pos} {x1 : Nat} {v1 v2 : Value} {T : Addr} {Q : Unit → Shared → Prop} (hh : A.handled = none) (hn : s.heap.Ns env.locals m) (ht : s.heap.IsTuple T #[v1, v2])
    (hxi : env.kindOf xi = some .local) (hxv : env.kindOf xv = some .local) (hp : (env.scope.kind == .class || (env.scope.kind == .module && env.locals != env.globals)) = false)
    (h : ∀ h' tk, h'.Ns env.locals (fun y => if y = xv then some v2 else if y = xi then some v1 else m y) → (∀ b o, b ≠ env.locals → s.heap.get? b = some o → h'.get? b = some o) → Q () { s with heap := h', toks := tk }) :
    wpAny (model prog w) A (assign (.Tuple [.Name xi pi, .Name xv pv] x1 pt) env (.ref T)) Q E s := by
  refine wpAny_assign_Tuple hh ht rfl rfl fun h₃ hx₃ => ?_
  have k₃ : Kp s.heap h₃ := fun b o e => hx₃ b o (Nat.ne_of_lt (Heap.lt_size e)) e
  show wpAny _ A (do holding [v2] (assign (.Name xi pi) env v1); do holding [] (assign (.Name xv pv) env v2); pure ()) _ _ _
  refine wpAny_bind (wpAny_holding (wpAny_assign_Name (wpAny_storeName_local hxi (hn.keeps k₃) (fun h₄ hn₄ hs₄ => ?_) hp)))
  refine wpAny_bind (wpAny_holding (wpAny_assign_Name (wpAny_storeName_local hxv hn₄ (fun h₅ hn₅ hs₅ => wpAny_pure ?_) hp)))
  exact h _ _ hn₅ fun b o hb e => hs₅.extBut b o hb (hs₄.extBut b o hb (k₃ b o e))
end
noncomputable def GInv (C e it : Addr) (x : Str) (t : Tok) (i : Nat) (esc : Bool) (h : Heap) : Prop :=
  (∃ m, h.Ns C m ∧ m (Str.ofString "escape") = some (.bool esc) ∧ ∃ tp, m (Str.ofString "pos") = some (.int ((i - 1 : Nat) : Int) tp)) ∧ (∃ old, IsEnum h e it i old) ∧ h.IsStrIter it "str_ascii_iterator" x t i
theorem GInv.own {C e it : Addr} {x : Str} {t : Tok} {i : Nat} {esc : Bool} {h : Heap} (g : GInv C e it x t i esc h) :
    ∃ own : List (Addr × Obj), own.map (·.1) = [C, e, it] ∧ OwnAt own h ∧ ∀ h'', OwnAt own h'' → GInv C e it x t i esc h'' := by
  obtain ⟨⟨m, ⟨oC, es, ep, hC, r⟩, m1, m2⟩, ⟨old, he⟩, oI, hI, rI⟩ := g
  unfold IsEnum at he
  generalize hoE : ({ cls := _, data := _ } : Obj) = oE at he
  refine ⟨[(C, oC), (e, oE), (it, oI)], rfl, ?_, fun h'' ho => ⟨⟨m, ⟨oC, es, ep, ho (C, oC) (by simp), r⟩, m1, m2⟩, ⟨old, (ho (e, oE) (by simp)).trans (by rw [hoE])⟩, oI, ho (it, oI) (by simp), rI⟩⟩
  intro p hp
  simp only [List.mem_cons, List.not_mem_nil, or_false] at hp
  rcases hp with rfl | rfl | rfl
  · exact hC
  · exact he
  · exact hI
theorem GInv.here {C e it : Addr} {x : Str} {t : Tok} {i : Nat} {esc : Bool} {h : Heap} (g : GInv C e it x t i esc h) : ∀ b ∈ [C, e, it], h.get? b ≠ none := by
  obtain ⟨⟨m, ⟨oC, es, ep, hC, r⟩, m1, m2⟩, ⟨old, he⟩, oI, hI, rI⟩ := g
  intro b hb
  simp only [List.mem_cons, List.not_mem_nil, or_false] at hb
  rcases hb with rfl | rfl | rfl
  · rw [hC]; exact fun z => nomatch z
  · rw [show h.get? b = _ from he]; exact fun z => nomatch z
  · rw [hI]; exact fun z => nomatch z
theorem get_size (h : Heap) : h.get? h.objs.size = none := by
  cases q : h.get? h.objs.size with
  | none => rfl
  | some o => exact absurd (Heap.lt_size q) (Nat.lt_irrefl _)
theorem fresh3 {C e it : Addr} {h h' : Heap} {n : Nat} (hk : ∀ b o, b ≠ C → b ≠ e → b ≠ it → h.get? b = some o → h'.get? b = some o) (h1 : h'.get? n = none) (a1 : n ≠ C) (a2 : n ≠ e) (a3 : n ≠ it) : h.get? n = none := by
  cases q : h.get? n with
  | none => rfl
  | some o => rw [hk n o a1 a2 a3 q] at h1; cases h1
theorem mv3 {C e it : Addr} {s : Shared} {h' : Heap} {tk : Nat} (k : ∀ b o, b ≠ C → b ≠ e → b ≠ it → s.heap.get? b = some o → h'.get? b = some o) : Mv [C, e, it] s { s with heap := h', toks := tk } :=
  ⟨fun b o hb q => k b o (fun z => hb (by simp [z])) (fun z => hb (by simp [z])) (fun z => hb (by simp [z])) q, rfl, rfl, rfl⟩
theorem mvk {ad : List Addr} {s : Shared} {h' : Heap} {tk : Nat} (k : Kp s.heap h') : Mv ad s { s with heap := h', toks := tk } := ⟨fun b o _ q => k b o q, rfl, rfl, rfl⟩
set_option maxRecDepth 100000 in
set_option maxHeartbeats 8000000 in
theorem gen_make0 : ∀ (w : World) (mg mb : Str → Option Value) (s : Shared) (Q E : Value → Shared → Prop) (x : Str) (t : Tok), (Mine.K2 w.params).In s.heap → TopRead Mine.myView LS mg mb s.heap → x.cps.all (· < 128) = true → x.length ≤ 4194304 →
    (∀ a own h' tk g', Kp s.heap h' → GOk s.gens g' → s.heap.get? a = none → (∀ p ∈ own, s.heap.get? p.1 = none) → a ∉ own.map (·.1) → GenSt w mg mb a s.gens.size own (escItems x) { s with heap := h', toks := tk, gens := g' } →
      Q (.ref a) { s with heap := h', toks := tk, gens := g' }) →
    wpAny (model PySem.Challenge.rw_om0053_01.prog w) (AA 24) (call (.ref 21) [.str x t]) Q E s := by
  k_fill
  intro w mg mb s Q E x t X T hasc hlen hret
  have hen : mg (Str.ofString "enumerate") = none := mg_none_of X T.g (by k_is)
  have hbn : mb (Str.ofString "enumerate") = some (.type "enumerate") := (T.builtins _ (by decide)).trans (by boot_by_name)
  refine wpAny_call ?_
  k_dflt (refine' codeAny_call_generator (body := _) ?k1 ?k2 ?k3 ?k4 ?k5 ?k6 ?k7 ?_; (case k2 => exact X _ _ (by k_is)); (case k3 => exact rfl); (case k1 => decide); (case k4 => exact rfl); (case k5 => exact rfl); (case k6 => exact rfl); (case k7 => exact codeRec_of X (by k_is)))
  refine wpAny_pure (a := [(Str.ofString "addr", Value.str x t)]) ?_
  refine wpAny_newFunctionEnv (by decide) (locs rfl) (fun h₁ hns hsb => ⟨T.nolimit.fresh _ hsb, ?_⟩) rfl
  have keep₁ : Kp s.heap h₁ := fun b o e => hsb.extBut b o (Nat.ne_of_lt (Heap.lt_size e)) (Heap.get?_push_of_some _ e)
  have hsz : h₁.objs.size = s.heap.objs.size + 1 := by rw [hsb.1, Heap.size_push]
  have nn : ∀ b, s.heap.objs.size ≤ b → s.heap.get? b = none := fun b hb => by
    cases q : s.heap.get? b with
    | none => rfl
    | some o => exact absurd (Heap.lt_size q) (Nat.not_lt.mpr hb)
  obtain ⟨oC, e1, e2, hC, hrest⟩ := id hns
  have gG : mainGlobals < s.heap.objs.size := T.g.lt
  have gB : builtinsNs < s.heap.objs.size := T.b.lt
  refine hret h₁.objs.size [(s.heap.objs.size, oC)] _ _ _ (fun b o e => Heap.get?_push_of_some _ (keep₁ b o e)) ?g1 (nn _ (by (first | lia | omega))) ?g2 ?g3 ⟨?g4, ?g5, ?g6⟩
  case g1 =>
    intro hb y hy
    rcases Array.mem_push.mp hy with h | h
    · exact hb y h
    · rw [h]; rfl
  case g2 => intro p hp; rw [List.mem_singleton] at hp; subst hp; exact nn _ (Nat.le_refl _)
  case g3 => simp [hsz]
  case g4 => exact ⟨_, _, _, Heap.get?_push_size _ rfl, rfl, rfl, rfl⟩
  case g5 => intro p hp; rw [List.mem_singleton] at hp; subst hp; exact Heap.get?_push_of_some _ hC
  case g6 =>
    refine ⟨_, Array.getElem?_push_size .., ?_⟩
    clear hret Q E
    intro s2 X2 T2 ho2
    have hC2 : s2.heap.get? s.heap.objs.size = some oC := ho2 _ (List.Mem.head _)
    have hn2 : s2.heap.Ns s.heap.objs.size (fun y => [(Str.ofString "addr", Value.str x t)].reverse.lookup y) := ⟨oC, e1, e2, hC2, hrest⟩
    generalize hL : s.heap.objs.size = C at *
    show SegX _ AG _ _ [] s2 _
    refine sx_func (sx_cons (sx_wrap (wpAny_Assign_Name (wpAny_Constant_int (wpAny_storeName_local rfl hn2 (fun h3 hn3 hs3 => ?_) rfl)))))
    refine sx_cons (sx_wrap (wpAny_Assign_Name (wpAny_Constant_bool (wpAny_storeName_local rfl hn3 (fun h4 hn4 hs4 => ?_) rfl))))
    replace hs3 : Heap.SameBut C s2.heap h3 := hs3
    replace hs4 : Heap.SameBut C h3 h4 := hs4
    have hg4 : h4.Ns mainGlobals mg := (T2.g.sameBut hs3 (Nat.ne_of_lt gG)).sameBut hs4 (Nat.ne_of_lt gG)
    have hb4 : h4.Ns builtinsNs mb := (T2.b.sameBut hs3 (Nat.ne_of_lt gB)).sameBut hs4 (Nat.ne_of_lt gB)
    refine sx_cons (sx_For ?_ (fun _ => rfl))
    refine Call_ (Calls.Name_function_global rfl rfl (Calls.loadGlobal_builtin hg4 hen hb4 hbn ?_) (by decide))
    refine callWith_type1 (spliced_more (wpAny_Name (wpAny_loadName_local rfl rfl hn4 rfl (spliced_none ?_))))
    refine call_enumerate_str fun h5 he5 hit5 hz5 hk5 => wpAny_pyIter_enum he5 fun p k hk => ?_
    have hty : strIterType x = "str_ascii_iterator" := by unfold strIterType; rw [if_pos hasc]
    rw [hty] at hit5
    replace hit5 : h5.IsStrIter h4.objs.size "str_ascii_iterator" x t 0 := hit5
    replace he5 : IsEnum h5 (h4.objs.size + 1) h4.objs.size 0 .none := he5
    replace hk5 : Kp h4 h5 := hk5
    have hsz4 : h4.objs.size = s2.heap.objs.size := by rw [hs4.1, hs3.1]
    have hlt4 : C < h4.objs.size := hn4.lt
    have hn5 : h5.Ns C _ := hn4.keeps hk5
    generalize hit : h4.objs.size = it at *
    generalize hFL : Code.forLoop _ _ _ _ _ = FL
    generalize hFN : Code.func _ _ = FN at hFL ⊢
    have hCne : C ≠ it := Nat.ne_of_lt hlt4
    have hCne1 : C ≠ it + 1 := Nat.ne_of_lt (Nat.lt_succ_of_lt hlt4)
    have hItne : it + 1 ≠ it := Nat.succ_ne_self it
    have key : ∀ n i esc s3, i + n = x.cps.size → GInv C (it + 1) it x t i esc s3.heap →
        SegX (model PySem.Challenge.rw_om0053_01.prog w) AG FL (denote table FL) [Frame.ret k none (id false) (id []) FN p []] s3 (GP w (escFrom i esc (x.cps.toList.drop i)) [C, it + 1, it] s3) := by
      intro n
      induction n with
      | zero =>
        intro i esc s3 hi hg
        obtain ⟨⟨m, hm, me, tp, mp⟩, ⟨old, he⟩, hI⟩ := id hg
        have hx0 : x.cps[i]? = none := by rw [Array.getElem?_eq_none]; (first | lia | omega)
        have hdr : x.cps.toList.drop i = [] := List.drop_eq_nil_of_le (by rw [Array.length_toList]; (first | lia | omega))
        rw [hdr]
        subst hFL
        refine sx_turn (enumA_end rfl he hI hx0 fun h' hb => ?_)
        refine s_pop _ _ _ _ _ _ _ (.ok .next) _ rfl _ _ _ _ _ _ _ ?_
        rw [hk]
        have hm' : h'.Ns C m := hm.extBut hb hCne
        have hkeep : ∀ b o, b ≠ C → b ≠ it + 1 → b ≠ it → s3.heap.get? b = some o → h'.get? b = some o := fun b o _ _ b3 q => hb b o b3 q
        refine sx_cons (sx_If (isTrue_plain (wpAny_Name (wpAny_loadName_local rfl rfl hm' me (wpAny_truthy_bool ?_)))))
        cases esc with
        | false =>
          refine sx_nil (sx_nil ?_)
          exact s_end _ _ _ _ _ _ (.ok (.ret .none)) _ rfl ⟨rfl, mv3 hkeep⟩
        | true =>
          refine sx_cons (sx_Yield rfl rfl rfl ?_ rfl rfl)
          refine Tuple_ (spliced_more (wpAny_Name (wpAny_loadName_local rfl rfl hm' mp (spliced_more (wpAny_Constant_str (spliced_none (wpAny_newTuple ?_)))))))
          intro l kk pp hkk
          obtain ⟨oC3, _, _, eC3, _⟩ := id hm'
          have lC3 : C < h'.objs.size := Heap.lt_size eC3
          refine ⟨mv3 fun b o b1 b2 b3 q => Heap.get?_push_of_some _ (hkeep b o b1 b2 b3 q), h'.objs.size, _, _, l, kk, _, pp, _, List.replicate 3 (C, oC3), rfl, ?_, Heap.get?_push_size _ rfl, rfl, (by intro p hp; rw [List.eq_of_mem_replicate hp]; exact Nat.ne_of_lt lC3), (by intro p hp; rw [List.eq_of_mem_replicate hp]; exact Heap.get?_push_of_some _ eC3), (by intro p hp; rw [List.eq_of_mem_replicate hp]; exact .inl (by simp)), fun s'' _ => hkk s'' _ ?_⟩
          · have l1 := hm'.lt; have l2 := Heap.lt_size (hb _ _ hItne he); exact fresh3 hkeep (get_size _) (Nat.ne_of_gt l1) (Nat.ne_of_gt l2) (Nat.ne_of_gt (Nat.lt_of_succ_lt l2))
          · exact sx_nil (sx_nil (s_end _ _ _ _ _ _ (.ok (.ret .none)) _ rfl ⟨rfl, Mv.refl _ _⟩))
      | succ n ih =>
        intro i esc s3 hi hg
        obtain ⟨⟨m, hm, me, tp, mp⟩, ⟨old, he⟩, hI⟩ := id hg
        have hlt : i < x.cps.size := by (first | lia | omega)
        have hx0 : x.cps[i]? = some x.cps[i] := Array.getElem?_eq_getElem hlt
        have hdr : x.cps.toList.drop i = x.cps[i] :: x.cps.toList.drop (i + 1) := by rw [List.drop_eq_getElem_cons (by rw [Array.length_toList]; (first | lia | omega))]; rfl
        rw [hdr]
        have ih' := fun esc s3 g => ih (i + 1) esc s3 (by (first | lia | omega)) g
        generalize x.cps[i] = c at hx0 ⊢
        generalize x.cps.toList.drop (i + 1) = R at ih' ⊢
        clear ih hdr
        rw [← hFL]
        refine sx_turn (enumA_item he hI hx0 hItne fun h4' tk4 tc ti T hT he' hI' ht' hk' => ?_)
        refine wpAny_letOwnedTupleGo_enum he' fun h5' he5' hs5' => ?_
        have hTC : T ≠ C := fun z => by rw [z] at hT; obtain ⟨o, _, _, ho, _⟩ := hm; rw [ho] at hT; cases hT
        have hTe : T ≠ it + 1 := fun z => by rw [z] at hT; rw [show s3.heap.get? (it + 1) = _ from he] at hT; cases hT
        have hTi : T ≠ it := fun z => by rw [z] at hT; obtain ⟨o, ho, _⟩ := hI; rw [ho] at hT; cases hT
        have hs5'' : Heap.SameBut (it + 1) h4' h5' := hs5'
        have ht5 : h5'.IsTuple T #[.int i ti, .str ⟨#[c]⟩ tc] := ⟨_, hs5''.extBut _ _ hTe ht', rfl, 0, rfl⟩
        have hk4 : ∀ b o, b ≠ it + 1 → b ≠ it → s3.heap.get? b = some o → h4'.get? b = some o := hk'
        have hm5 : h5'.Ns C m := by
          obtain ⟨o, es, ep, ho, r⟩ := hm
          exact ⟨o, es, ep, hs5''.extBut _ _ hCne1 (hk4 _ _ hCne1 hCne ho), r⟩
        refine assign2 rfl hm5 ht5 rfl rfl rfl fun h6 tk6 hn6 hk6 K' H' hK' => ?_
        have hk6' : ∀ b o, b ≠ C → h5'.get? b = some o → h6.get? b = some o := hk6
        have he6 : IsEnum h6 (it + 1) it ((i + 1 : Nat) : Int) (.str ⟨#[c]⟩ tc) := hk6' _ _ (Ne.symm hCne1) he5'
        have hI6 : h6.IsStrIter it "str_ascii_iterator" x t (i + 1) := by
          obtain ⟨o, ho, r⟩ := hI'
          exact ⟨o, hk6' _ _ (Ne.symm hCne) (hs5''.extBut _ _ (Ne.symm hItne) ho), r⟩
        have hkeep6 : ∀ b o, b ≠ C → b ≠ it + 1 → b ≠ it → s3.heap.get? b = some o → h6.get? b = some o := fun b o b1 b2 b3 q => hk6' b o b1 (hs5''.extBut b o b2 (hk4 b o b2 b3 q))
        generalize hm6 : (fun y => if y = Str.ofString "ch" then some (Value.str ⟨#[c]⟩ tc) else if y = Str.ofString "pos" then some (Value.int i ti) else m y) = m6 at hn6
        have m6e : m6 (Str.ofString "escape") = some (.bool esc) := by rw [← hm6]; exact me
        have m6p : m6 (Str.ofString "pos") = some (.int (i : Int) ti) := by rw [← hm6]; rfl
        have m6c : m6 (Str.ofString "ch") = some (.str ⟨#[c]⟩ tc) := by rw [← hm6]; rfl
        clear hm6 hm5 ht5 hs5'' hs5' he5' hk6 hk6' hk4 hk' hI' he' ht' hg
        have hTfresh : ∀ {h7 : Heap}, Kp h6 h7 → h7.objs.size ≠ C ∧ h7.objs.size ≠ it + 1 ∧ h7.objs.size ≠ it := fun {h7} k7 => by
          have l1 := (hn6.keeps k7).lt
          have l2 : it + 1 < h7.objs.size := Heap.lt_size (k7 _ _ he6)
          exact ⟨Nat.ne_of_gt l1, Nat.ne_of_gt l2, Nat.ne_of_gt (Nat.lt_of_succ_lt l2)⟩
        refine sx_cons (sx_If (isTrue_plain (wpAny_Name (wpAny_loadName_local rfl rfl hn6 m6e (wpAny_truthy_bool ?_)))))
        cases esc with
        | true =>
          have g6 : GInv C (it + 1) it x t (i + 1) true h6 := ⟨⟨m6, hn6, m6e, ti, m6p⟩, ⟨_, he6⟩, hI6⟩
          refine sx_cons (sx_Yield rfl rfl rfl ?_ rfl rfl)
          refine Tuple_ (spliced_more (wpAny_Name (wpAny_loadName_local rfl rfl hn6 m6p (spliced_more (wpAny_BinOp (wpAny_Constant_str (wpAny_Name (wpAny_loadName_local rfl rfl hn6 m6c (add_str (fun t7 tk7 => spliced_none (wpAny_newTuple ?_)) (by show 1 + 1 ≤ sizeLine; decide))))))))))
          intro l kk pp hkk
          obtain ⟨own', ho1, ho2, ho3⟩ := g6.own
          obtain ⟨f1, f2, f3⟩ := hTfresh (h7 := h6) (fun _ _ q => q)
          refine ⟨mv3 fun b o b1 b2 b3 q => Heap.get?_push_of_some _ (hkeep6 b o b1 b2 b3 q), h6.objs.size, _, _, l, kk, _, pp, _, own', rfl, fresh3 hkeep6 (get_size _) f1 f2 f3, Heap.get?_push_size _ rfl, (by have := congrArg List.length ho1; simpa using this), ?_, fun p hp => Heap.get?_push_of_some _ (ho2 p hp), fun p hp => .inl (by rw [← ho1]; exact List.mem_map_of_mem hp), fun s'' hs'' => hkk s'' _ ?_⟩
          · intro p hp
            have : p.1 ∈ [C, it + 1, it] := by rw [← ho1]; exact List.mem_map_of_mem hp
            simp only [List.mem_cons, List.not_mem_nil, or_false] at this
            rcases this with z | z | z <;> rw [z]
            · exact Ne.symm f1
            · exact Ne.symm f2
            · exact Ne.symm f3
          · rw [ho1]
            obtain ⟨⟨m7, hn7, m7e, tp7, m7p⟩, ⟨old7, he7⟩, hI7⟩ := ho3 _ hs''
            refine sx_cons (sx_wrap (wpAny_Assign_Name (wpAny_Constant_bool (wpAny_storeName_local rfl hn7 (fun h8 hn8 hs8 => ?_) rfl))))
            have hs8' : Heap.SameBut C s''.heap h8 := hs8
            have g8 : GInv C (it + 1) it x t (i + 1) false h8 := ⟨⟨_, hn8, rfl, tp7, m7p⟩, ⟨_, hs8'.extBut _ _ (Ne.symm hCne1) he7⟩, hI7.extBut hs8'.extBut (Ne.symm hCne)⟩
            refine sx_nil (sx_nil ?_)
            rw [hK']
            refine s_again _ _ _ _ _ _ _ _ rfl ?_
            rw [hFL]
            exact SegX.mono (ih' false _ g8) fun e s' hp => GP.ahead (mv3 fun b o b1 b2 b3 q => hs8'.extBut b o b1 q) (fun b hb => .inl hb) g8.here hp
        | false =>
          refine sx_cons (sx_If (wpAny_isTrue_Compare1 (wpAny_Name (wpAny_loadName_local rfl rfl hn6 m6c (wpAny_Constant_str (eq_str (wpAny_truthy_bool ?_)))))))
          have hq : ((⟨#[c]⟩ : Str) == Str.ofString "\\") = decide (c = 92) := by
            by_cases z : c = 92
            · subst z; rfl
            · rw [decide_eq_false z]; rw [beq_eq_false_iff_ne]; intro z2
              exact z (by have := congrArg (fun s : Str => s.cps[0]?) z2; exact Option.some.inj this)
          rw [hq]
          by_cases z : c = 92
          · rw [decide_eq_true z, if_pos rfl]
            rw [show escFrom i false (c :: R) = escFrom (i + 1) true R from if_pos z]
            refine sx_cons (sx_wrap (wpAny_Assign_Name (wpAny_Constant_bool (wpAny_storeName_local rfl hn6 (fun h8 hn8 hs8 => ?_) rfl))))
            have hs8' : Heap.SameBut C h6 h8 := hs8
            have g8 : GInv C (it + 1) it x t (i + 1) true h8 := ⟨⟨_, hn8, rfl, ti, m6p⟩, ⟨_, hs8'.extBut _ _ (Ne.symm hCne1) he6⟩, hI6.extBut hs8'.extBut (Ne.symm hCne)⟩
            refine sx_nil (sx_nil (sx_nil ?_))
            rw [hK']
            refine s_again _ _ _ _ _ _ _ _ rfl ?_
            rw [hFL]
            exact SegX.mono (ih' true _ g8) fun e s' hp => GP.ahead (mv3 fun b o b1 b2 b3 q => hs8'.extBut b o b1 (hkeep6 b o b1 b2 b3 q)) (fun b hb => .inl hb) g8.here hp
          · rw [decide_eq_false z, if_neg (by decide)]
            rw [show escFrom i false (c :: R) = ((i : Int), ⟨#[c]⟩) :: escFrom (i + 1) false R from if_neg z]
            have g6 : GInv C (it + 1) it x t (i + 1) false h6 := ⟨⟨m6, hn6, m6e, ti, m6p⟩, ⟨_, he6⟩, hI6⟩
            refine sx_cons (sx_Yield rfl rfl rfl ?_ rfl rfl)
            refine Tuple_ (spliced_more (wpAny_Name (wpAny_loadName_local rfl rfl hn6 m6p (spliced_more (wpAny_Name (wpAny_loadName_local rfl rfl hn6 m6c (spliced_none (wpAny_newTuple ?_))))))))
            intro l kk pp hkk
            obtain ⟨own', ho1, ho2, ho3⟩ := g6.own
            obtain ⟨f1, f2, f3⟩ := hTfresh (h7 := h6) (fun _ _ q => q)
            refine ⟨mv3 fun b o b1 b2 b3 q => Heap.get?_push_of_some _ (hkeep6 b o b1 b2 b3 q), h6.objs.size, _, _, l, kk, _, pp, _, own', rfl, fresh3 hkeep6 (get_size _) f1 f2 f3, Heap.get?_push_size _ rfl, (by have := congrArg List.length ho1; simpa using this), ?_, fun p hp => Heap.get?_push_of_some _ (ho2 p hp), fun p hp => .inl (by rw [← ho1]; exact List.mem_map_of_mem hp), fun s'' hs'' => hkk s'' _ ?_⟩
            · intro p hp
              have : p.1 ∈ [C, it + 1, it] := by rw [← ho1]; exact List.mem_map_of_mem hp
              simp only [List.mem_cons, List.not_mem_nil, or_false] at this
              rcases this with z | z | z <;> rw [z]
              · exact Ne.symm f1
              · exact Ne.symm f2
              · exact Ne.symm f3
            · rw [ho1]
              have g7 := ho3 _ hs''
              refine sx_nil (sx_nil (sx_nil ?_))
              rw [hK']
              refine s_again _ _ _ _ _ _ _ _ rfl ?_
              rw [hFL]
              exact ih' false _ g7
    have g5 : GInv C (it + 1) it x t 0 false h5 := ⟨⟨_, hn5, rfl, _, rfl⟩, ⟨_, he5⟩, hit5⟩
    refine SegX.mono (key x.cps.size 0 false _ (Nat.zero_add _) g5) fun e s' hp => ?_
    rw [List.drop_zero] at hp
    show GP w (escFrom 0 false x.cps.toList) [C] s2 e s'
    have hnn : ∀ b, it ≤ b → s2.heap.get? b = none := fun b hb => by
      cases q : s2.heap.get? b with
      | none => rfl
      | some o => exact absurd (Heap.lt_size q) (Nat.not_lt.mpr (hsz4 ▸ hb))
    refine GP.ahead (ad := [C]) ?m (fun b hb => ?_) (fun b hb => ?_) hp
    refine ⟨fun b o hb q => ?_, rfl, rfl, rfl⟩
    · have hbC : b ≠ C := fun z => hb (by simp [z])
      exact hk5 _ _ (hs4.extBut _ _ hbC (hs3.extBut _ _ hbC q))
    · simp only [List.mem_cons, List.not_mem_nil, or_false] at hb
      rcases hb with z | z | z <;> rw [z]
      · exact .inl (List.Mem.head _)
      · exact .inr (hnn _ (Nat.le_succ _))
      · exact .inr (hnn _ (Nat.le_refl _))
    · exact g5.here b (by rw [List.mem_singleton] at hb; rw [hb]; exact List.Mem.head _)
end Mine

end
section
open PySem PySem.W PySem.W.X PySem.Calls PyProof.Rows
set_option Elab.async false
set_option linter.unusedVariables false
namespace Mine
section
variable {prog : Program} {w : World} {A : Around} {E : Value → Shared → Prop} {h0 h : Heap} {g : Array GenState} {d : Drawn} {t : Nat} {os : OsState} {chg news : List (Addr × Obj)} {s : Shared}
theorem ml_alloc {o : Obj} {Q : Addr → Shared → Prop} (D : Mem h0 h chg news) (hf : o.isFreed = false) (x : ∀ a h', Mem h0 h' chg ((a, o) :: news) → Q a ⟨h', g, d, t, os⟩) : wpAny (model prog w) A (alloc o) Q E ⟨h, g, d, t, os⟩ :=
  wpAny_alloc (x _ _ (D.alloc hf))
theorem ml_update {a : Addr} {f : Obj → Obj} {o : Obj} {Q : Unit → Shared → Prop} (i : Nat) (D : Mem h0 h chg news) (hi : news[i]? = some (a, o)) (hf : (f o).isFreed = false) (x : ∀ h', Mem h0 h' chg (news.set i (a, f o)) → Q () ⟨h', g, d, t, os⟩) : wpAny (model prog w) A (update a f) Q E ⟨h, g, d, t, os⟩ :=
  wpAny_update (D.at i a o hi) (x _ (D.update hi hf))
theorem ml_updatePart {a : Addr} {q : Option Value} {f : Obj → Obj} {o : Obj} {Q : Unit → Shared → Prop} (i : Nat) (D : Mem h0 h chg news) (hi : news[i]? = some (a, o)) (hf : (f o).isFreed = false) (x : ∀ h', Mem h0 h' chg (news.set i (a, f o)) → Q () ⟨h', g, d, t, os⟩) : wpAny (model prog w) A (updatePart a q f) Q E ⟨h, g, d, t, os⟩ :=
  wpAny_updatePart (D.at i a o hi) (x _ (D.update hi hf))
theorem ml_nil {α β : Type} {b : β} {f : α → β → Sem (ForInStep β)} {Q : β → Shared → Prop} (h : Q b s) : wpAny (model prog w) A (forIn ([] : List α) b f) Q E s := by
  rw [List.forIn_nil]; exact wpAny_pure h
theorem ml_cons {α β : Type} {a : α} {l : List α} {b : β} {f : α → β → Sem (ForInStep β)} {Q : β → Shared → Prop} (h : wpAny (model prog w) A (f a b) (fun r s' => match r with | .done b' => Q b' s' | .yield b' => wpAny (model prog w) A (forIn l b' f) Q E s') E s) : wpAny (model prog w) A (forIn (a :: l) b f) Q E s := by
  rw [List.forIn_cons]
  refine wpAny_bind (wpAny_mono h (fun r s' hr => ?_) fun _ _ x => x)
  cases r with
  | done b' => exact wpAny_pure hr
  | yield b' => exact hr
theorem ml_match {α : Type} {Q : Prop} (h : Q) : Q := h
end
noncomputable abbrev sT (x : String) : Str := Str.ofString x
theorem c_turned : Builtin.notOverATurnedClass [.type "object"] = pure () := by kernel_rfl
theorem c_ext : Builtin.extendedBase [.type "object"] = pure (.type "object") := by kernel_rfl
theorem c_best : Builtin.Slots.bestBase [.type "object"] = pure (.type "object") := by kernel_rfl
theorem c_names : Builtin.Slots.slotNamesOf (.type "object") = pure [] := by kernel_rfl
theorem c_gd : Builtin.Slots.givesDict (.type "object") = pure false := by kernel_rfl
theorem c_gw : Builtin.Slots.givesWeak (.type "object") = pure false := by kernel_rfl
theorem c_vs : Builtin.Slots.varSize (.type "object") = pure false := by kernel_rfl
theorem c_iter : typeLookup (.type "dict") (sT "__iter__") = pure (some (.builtin "dict.__iter__")) := by kernel_rfl
theorem c_mroh : Builtin.mroHook? (.type "type") = pure none := by kernel_rfl
theorem c_lin : Builtin.linearize [.type "object"] mroOf = pure [.type "object"] := by kernel_rfl
theorem c_made : Bind.madeBy (.type "object") = pure (some "object.__new__") := by kernel_rfl
end Mine

end
section
open PySem PySem.W PySem.W.X PySem.Calls PyProof.Rows Mine
local macro_rules | `(tactic| walk_at "m_get") => `(tactic| first | assumption | exact Mem.old (by assumption) _ _ (by assumption) (by with_unfolding_all rfl) | exact Mem.at (by assumption) 0 _ _ rfl | exact Mem.at (by assumption) 1 _ _ rfl | exact Mem.at (by assumption) 2 _ _ rfl | exact Mem.at (by assumption) 3 _ _ rfl | exact Mem.at (by assumption) 4 _ _ rfl | exact Mem.at (by assumption) 5 _ _ rfl | exact Mem.at (by assumption) 6 _ _ rfl | exact Mem.at (by assumption) 7 _ _ rfl | exact Mem.at (by assumption) 8 _ _ rfl)
local macro_rules | `(tactic| walk_at "m_upd") => `(tactic| first
  | (with_reducible refine ml_update 0 (by assumption) (by with_unfolding_all rfl) (by with_unfolding_all rfl) ?_; (try (rename Mem _ _ _ _ => Dz; clear Dz)); intro _ _) | (with_reducible refine ml_updatePart 0 (by assumption) (by with_unfolding_all rfl) (by with_unfolding_all rfl) ?_; (try (rename Mem _ _ _ _ => Dz; clear Dz)); intro _ _)
  | (with_reducible refine ml_update 1 (by assumption) (by with_unfolding_all rfl) (by with_unfolding_all rfl) ?_; (try (rename Mem _ _ _ _ => Dz; clear Dz)); intro _ _) | (with_reducible refine ml_updatePart 1 (by assumption) (by with_unfolding_all rfl) (by with_unfolding_all rfl) ?_; (try (rename Mem _ _ _ _ => Dz; clear Dz)); intro _ _)
  | (with_reducible refine ml_update 2 (by assumption) (by with_unfolding_all rfl) (by with_unfolding_all rfl) ?_; (try (rename Mem _ _ _ _ => Dz; clear Dz)); intro _ _) | (with_reducible refine ml_updatePart 2 (by assumption) (by with_unfolding_all rfl) (by with_unfolding_all rfl) ?_; (try (rename Mem _ _ _ _ => Dz; clear Dz)); intro _ _))
local macro_rules | `(tactic| walk_at "m_stop") => `(tactic| first
  | with_reducible show wpAny _ _ (collect _) _ _ _ | with_reducible show wpAny _ _ (Builtin.Slots.read _ _ _) _ _ _ | with_reducible show wpAny _ _ (Builtin.Slots.install _ _ _ _) _ _ _
  | with_reducible show wpAny _ _ (Builtin.Slots.givesWeak _) _ _ _ | with_reducible show wpAny _ _ (Builtin.noteSubclassOfBuiltin _ _) _ _ _ | with_reducible show wpAny _ _ (Bind.refreshMaker _) _ _ _
  | with_reducible show wpAny _ _ (Bind.madeBy _) _ _ _ | with_reducible show wpAny _ _ (nsLook _ _) _ _ _ | with_reducible show wpAny _ _ (nsHas _ _) _ _ _ | with_reducible show wpAny _ _ (nsDel _ _) _ _ _ | with_reducible show wpAny _ _ (nsSet _ _ _) _ _ _ | with_reducible show wpAny _ _ (nsSetByValue _ _ _) _ _ _ | with_reducible show wpAny _ _ (Sem.tryCatch _ _) _ _ _ | with_reducible show wpAny _ _ (alloc _) _ _ _ | with_reducible show wpAny _ _ (setSlotAt _ _ _) _ _ _ | with_reducible show wpAny _ _ (updateCls _ _) _ _ _)
local macro_rules | `(tactic| walk_at "m1") => `(tactic| first
  | with_reducible (first
      | refine wpAny_pure ?_ | refine wpAny_bind ?_ | refine wpAny_holding ?_ | refine wpAny_rule ?_ | (show wpAny _ _ (mkStr _) _ _ _; refine wpAny_mkStr' ?_) | refine wpAny_mkInt' ?_)
  | with_reducible refine wpAny_loadPart' (by walk_at "m_get") ?_
  | with_reducible refine wpAny_load' (by walk_at "m_get") ?_
  | with_reducible refine wpAny_ite_false (by kernel_rfl!) ?_ | with_reducible refine wpAny_ite_true (by kernel_rfl!) ?_
  | with_reducible refine wpAny_ite_false (by assumption) ?_ | with_reducible refine wpAny_ite_true (by assumption) ?_
  | (with_reducible show wpAny _ _ (forIn _ _ _) _ _ _; first | refine ml_cons ?_ | refine ml_nil ?_)
  | (with_reducible show wpAny _ _ (Builtin.notOverATurnedClass _) _ _ _; refine wpAny_of_eq (a := ()) (by kernel_rfl!) ?_) | (with_reducible show wpAny _ _ (Builtin.extendedBase _) _ _ _; refine wpAny_of_eq (a := .type "object") (by kernel_rfl!) ?_)
  | (with_reducible show wpAny _ _ (Builtin.mroHook? _) _ _ _; refine wpAny_of_eq (a := none) (by kernel_rfl!) ?_) | (with_reducible show wpAny _ _ (Builtin.linearize _ _) _ _ _; refine wpAny_of_eq (a := [.type "object"]) (by kernel_rfl!) ?_)
  | (with_reducible show wpAny _ _ (isSubtype _ _) _ _ _; refine wpAny_of_eq (a := true) (by kernel_rfl!) ?_)
  | (with_reducible show wpAny _ _ (isSubtype _ _) _ _ _; refine wpAny_of_eq (a := false) (by kernel_rfl!) ?_)
  | ((fail_if_success (walk_at "m_stop")); (first | wp_delta | with_reducible_and_instances refine wpAny_pure ?_ | with_reducible_and_instances refine wpAny_bind ?_))
  | with_reducible refine wpAny_of_eq (by assumption) ?_)

section
open PySem PySem.W PySem.W.X PySem.Calls PyProof.Rows
set_option Elab.async false
set_option linter.unusedVariables false
namespace Mine
theorem m_collect {prog : Program} {w : World} {A : Around} {E : Value → Shared → Prop} {s : Shared} {v : Value} {Q : List Value → Shared → Prop} {it : Addr} {o : Obj} {items : Array Value} {n : Nat}
    (ho : s.heap.get? it = some o) (hv : v = .ref it) (hc : o.cls = .type "list") (hd : o.data = .seq items n)
    (hQ : ∀ h', (∀ b o', s.heap.get? b = some o' → h'.get? b = some o') → Q items.toList { s with heap := h' }) (hsz : items.size ≤ sizeLine) :
    wpAny (model prog w) A (collect v) Q E s := by subst hv; exact wpAny_collect_seq it (.inl rfl) ho hc hd hQ hsz
set_option maxHeartbeats 1000000 in
theorem slots_read {prog : Program} {w : World} {A : Around} {Q : Builtin.Slots.Plan → Shared → Prop} {E : Value → Shared → Prop} {s : Shared} {es : Array DictEntry} {sl : Addr} {x4 : Int} {k4 : Value} {u4 : Tok}
    (hf : es.find? (fun e => e.key.isStr (Str.ofString "__slots__")) = some ⟨x4, k4, .ref sl⟩) (ho : es.any (fun e => e.key.isStr (Str.ofString "obj")) = false)
    (eS : s.heap.get? sl = some { cls := .type "list", data := .seq #[.str (Str.ofString "obj") u4] })
    (hQ : ∀ h1, (∀ b o', s.heap.get? b = some o' → h1.get? b = some o') → Q { names := [Str.ofString "obj"], dict := false, weak := false, inherited := [] } { s with heap := h1 }) :
    wpAny (model prog w) A (Builtin.Slots.read (Str.ofString "K") [.type "object"] es) Q E s := by
  unfold Builtin.Slots.read
  with_reducible refine wpAny_bind (wpAny_of_eq c_best (wpAny_bind (wpAny_of_eq c_names (wpAny_bind (wpAny_of_eq c_gd (wpAny_bind (wpAny_of_eq c_gw (wpAny_bind (wpAny_of_eq c_vs ?_)))))))))
  rw [hf]
  dsimp only
  refine wpAny_bind (wpAny_rule ?_)
  obtain ⟨h, g, d, t, os⟩ := s
  replace eS : h.get? sl = _ := eS
  refine wpAny_bind (m := asStr? (.ref sl)) ?_
  repeat walk_at "m1"
  refine m_collect (it := sl) eS rfl rfl rfl (fun h1 hk => ?_) (by show 1 ≤ sizeLine; decide)
  repeat walk_at "m1"
  refine wpAny_of_eq (a := ForInStep.yield (false, false, #[Str.ofString "obj"], [])) (by kernel_rfl) ?_
  repeat walk_at "m1"
  have hm : Builtin.Slots.mangle (Str.ofString "K") (Str.ofString "obj") = Str.ofString "obj" := by kernel_rfl
  have hz : ∀ b : Bool, ¬ (((es.any fun x => x.key.isStr (Builtin.Slots.mangle (Str.ofString "K") (Str.ofString "obj"))) && b) = true) := fun b => by rw [hm, ho]; simp
  refine (if_neg (hz _)) ▸ ?_
  refine wpAny_of_eq (a := ForInStep.yield ([Str.ofString "obj"], 3)) (by kernel_rfl) ?_
  repeat walk_at "m1"
  exact hQ _ hk
end Mine

end
section
open PySem PySem.W PySem.W.X PySem.Calls PyProof.Rows
set_option Elab.async false
set_option linter.unusedVariables false
namespace Mine
section
variable {prog : Program} {w : World} {A : Around} {E : Value → Shared → Prop} {h0 h : Heap} {g : Array GenState} {d : Drawn} {t : Nat} {os : OsState} {chg news : List (Addr × Obj)} {a : Addr} {name : Str} {o o' : Obj}
theorem ml_nsGet {r : Option Value} {Q : Option Value → Shared → Prop} (ho : h.get? a = some o) (hl : nsLook name o = pure r) (x : Q r ⟨h, g, d, t, os⟩) : wpAny (model prog w) A (nsGet a name) Q E ⟨h, g, d, t, os⟩ := by
  unfold nsGet
  exact wpAny_bind (wpAny_loadPart ho (wpAny_of_eq hl x))
theorem ml_nsDel {Q : Bool → Shared → Prop} (i : Nat) (D : Mem h0 h chg news) (hi : news[i]? = some (a, o)) (hh : nsHas name o = pure true) (hd : Obj.dropName name o = o') (hf : o'.isFreed = false)
    (x : ∀ h', Mem h0 h' chg (news.set i (a, o')) → Q true ⟨h', g, d, t, os⟩) : wpAny (model prog w) A (nsDel a name) Q E ⟨h, g, d, t, os⟩ := by
  subst hd
  unfold nsDel
  refine wpAny_bind (wpAny_loadPart (D.at i a o hi) (wpAny_bind (wpAny_of_eq hh ?_)))
  exact wpAny_bind (wpAny_updatePart (D.at i a o hi) (wpAny_pure (x _ (D.update hi hf))))
theorem ml_nsSet {es : Array DictEntry} {n : Nat} {v : Value} {Q : Unit → Shared → Prop} (i : Nat) (D : Mem h0 h chg news) (hi : news[i]? = some (a, o)) (hd : o.data = .dict es n) (hr : aRefKeyMayBeTheName name es = false) (hf : ∀ hs tk, (Obj.putName name hs (.str name tk) v o).isFreed = false)
    (x : ∀ hs tk h', Mem h0 h' chg (news.set i (a, Obj.putName name hs (.str name tk) v o)) → Q () ⟨h', g, d, t + 1, os⟩) : wpAny (model prog w) A (nsSet a name v) Q E ⟨h, g, d, t, os⟩ := by
  unfold nsSet strHash mkText
  refine wpAny_bind (wpAny_bind (x_ask (wpAny_pure (wpAny_pure ?_))))
  refine wpAny_bind (wpAny_bind (wpAny_fresh (wpAny_pure ?_)))
  refine wpAny_bind (wpAny_loadPart (D.at i a o hi) ?_)
  rw [hd]
  simp only [hr]
  exact wpAny_updatePart (D.at i a o hi) (x _ _ _ (D.update hi (hf _ _)))
end
end Mine

end
section
open PySem PySem.W PySem.W.X PySem.Calls PyProof.Rows
set_option Elab.async false
set_option linter.unusedVariables false
namespace Mine
theorem c_objnew : classOwn (.type "object") (Str.ofString "__new__") = pure (some (.builtin "object.__new__")) := by kernel_rfl
theorem c_ends : ("object.__new__".endsWith ".__new__") = true := by kernel_rfl
section
variable {prog : Program} {w : World} {A : Around} {E : Value → Shared → Prop} {s : Shared}
theorem lookup_two {a : Addr} {c : ClassData} {cl : Value} {dd : Option Addr} {sl : Array (Option Value)} {oN : Obj} {name : Str} {v : Value} {Q : Option Value → Shared → Prop}
    (ea : s.heap.get? a = some ⟨cl, dd, .cls c, sl⟩) (hm : c.mro = [.ref a, .type "object"]) (en : s.heap.get? c.ns = some oN) (hl : nsLook name oN = pure none) (hv : classOwn (.type "object") name = pure (some v)) (h : Q (some v) s) :
    wpAny (model prog w) A (typeLookup (.ref a) name) Q E s := by
  unfold typeLookup
  refine wpAny_bind ?_
  unfold mroOf classData
  refine wpAny_bind (wpAny_bind (wpAny_load ea (wpAny_pure (wpAny_pure ?_))))
  rw [hm]
  refine wpAny_bind (ml_cons (wpAny_bind ?_))
  unfold classOwn classData
  refine wpAny_bind (wpAny_bind (wpAny_load ea (wpAny_pure ?_)))
  unfold nsGet
  refine wpAny_bind (wpAny_loadPart en (wpAny_of_eq hl (wpAny_pure ?_)))
  refine ml_cons (wpAny_bind (wpAny_of_eq hv (wpAny_pure ?_)))
  exact wpAny_pure h
theorem refresh_ok {a : Addr} {c : ClassData} {cl : Value} {dd : Option Addr} {sl : Array (Option Value)} {oN : Obj} {Q : Unit → Shared → Prop}
    (ea : s.heap.get? a = some ⟨cl, dd, .cls c, sl⟩) (h4 : sl[4]?.join = some (.builtin "object.__new__")) (hm : c.mro = [.ref a, .type "object"]) (en : s.heap.get? c.ns = some oN) (hl : nsLook (Str.ofString "__new__") oN = pure none) (h : Q () s) :
    wpAny (model prog w) A (Bind.refreshMaker a) Q E s := by
  unfold Bind.refreshMaker slotAt
  refine wpAny_bind (wpAny_bind (wpAny_loadPart ea (wpAny_pure ?_)))
  rw [h4]
  refine wpAny_ite_false (by decide) ?_
  refine wpAny_bind (lookup_two ea hm en hl c_objnew ?_)
  show wpAny _ _ (if (!("object.__new__".endsWith ".__new__")) = true then _ else _) _ _ _
  rw [c_ends]
  exact wpAny_pure h
theorem ml_nsSetV {h0 h : Heap} {g : Array GenState} {d : Drawn} {t : Nat} {os : OsState} {chg news : List (Addr × Obj)} {a : Addr} {name : Str} {o : Obj} {es : Array DictEntry} {n : Nat} {v : Value} {Q : Unit → Shared → Prop} (i : Nat) (D : Mem h0 h chg news) (hi : news[i]? = some (a, o)) (hd : o.data = .dict es n) (hz : es.size ≤ sizeLine) (hr : aRefKeyMayBeTheName name es = false) (hf : ∀ hs tk, (Obj.putName name hs (.str name tk) v o).isFreed = false)
    (x : ∀ hs tk h', Mem h0 h' chg (news.set i (a, Obj.putName name hs (.str name tk) v o)) → Q () ⟨h', g, d, t + 1, os⟩) : wpAny (model prog w) A (nsSetByValue a name v) Q E ⟨h, g, d, t, os⟩ := by
  unfold nsSetByValue
  refine wpAny_bind (wpAny_loadPart (D.at i a o hi) ?_)
  rw [hd]
  have : ¬ ((decide (es.size > sizeLine) && noSuchName name es) = true) := by rw [decide_eq_false (by (first | lia | omega))]; simp
  simp only [this]
  exact ml_nsSet i D hi hd hr hf x
end
theorem ml_setSlot {prog : Program} {w : World} {A : Around} {E : Value → Shared → Prop} {h0 h : Heap} {g : Array GenState} {d : Drawn} {t : Nat} {os : OsState} {chg news news' : List (Addr × Obj)} {a : Addr} {o : Obj} {v : Option Value} {k : Nat} {sl' : Array (Option Value)} {Q : Unit → Shared → Prop} (i : Nat)
    (D : Mem h0 h chg news) (hi : news[i]? = some (a, o)) (hk : k < 100) (hs : (o.slots ++ Array.replicate (k + 1 - o.slots.size) none).setIfInBounds k v = sl') (hf : ({ o with slots := sl' } : Obj).isFreed = false)
    (hn : news.set i (a, { o with slots := sl' }) = news') (x : ∀ h', Mem h0 h' chg news' → Q () ⟨h', g, d, t, os⟩) : wpAny (model prog w) A (setSlotAt a k v) Q E ⟨h, g, d, t, os⟩ := by
  subst hs hn
  unfold setSlotAt
  refine wpAny_ite_false (decide_eq_false (by rw [sizeLine_eq]; (first | lia | omega))) ?_
  exact wpAny_updatePart (D.at i a o hi) (x _ (D.update hi hf))
theorem ml_updateCls {prog : Program} {w : World} {A : Around} {E : Value → Shared → Prop} {h0 h : Heap} {g : Array GenState} {d : Drawn} {t : Nat} {os : OsState} {chg news news' : List (Addr × Obj)} {a : Addr} {cl : Value} {dd : Option Addr} {c c' : ClassData} {sl : Array (Option Value)} {f : ClassData → ClassData} {Q : Unit → Shared → Prop} (i : Nat)
    (D : Mem h0 h chg news) (hi : news[i]? = some (a, ⟨cl, dd, .cls c, sl⟩)) (hc : f c = c') (hp : (Data.cls c').pastItsLine = none) (hf : (⟨cl, dd, .cls c', sl⟩ : Obj).isFreed = false)
    (hn : news.set i (a, ⟨cl, dd, .cls c', sl⟩) = news') (x : ∀ h', Mem h0 h' chg news' → Q () ⟨h', g, d, t, os⟩) : wpAny (model prog w) A (updateCls a f) Q E ⟨h, g, d, t, os⟩ := by
  subst hc hn
  unfold updateCls lookBehind
  refine wpAny_bind (wpAny_load (D.at i a _ hi) ?_)
  refine wpAny_bind (wpAny_update (D.at i a _ hi) ?_)
  have D' := D.update (f := Obj.mapCls f) hi hf
  refine wpAny_bind (wpAny_load (D'.at i a _ (by rw [List.getElem?_set_self (List.getElem?_eq_some_iff.mp hi).1])) ?_)
  show wpAny _ _ (match (Data.cls (f c)).pastItsLine with | some what => unsupported what | x => pure ()) _ _ _
  rw [hp]
  exact wpAny_pure (x _ D')
end Mine

end
section
open PySem PySem.W PySem.W.X PySem.Calls PyProof.Rows
set_option Elab.async false
set_option linter.unusedVariables false
namespace Mine
section
variable {prog : Program} {w : World} {A : Around} {E : Value → Shared → Prop} {h0 h : Heap} {g : Array GenState} {d : Drawn} {t : Nat} {os : OsState} {chg news : List (Addr × Obj)}
noncomputable def memD (a : Addr) (tb : Tok) : Obj := { cls := .type "member_descriptor", data := .fields #[.str (Str.ofString "obj") tb, .ref a, .builtin "proto.slot", .builtin "proto.slot#set", rawInt 0] }
theorem install_ok {a ns : Addr} {c : ClassData} {sl : Array (Option Value)} {es : Array DictEntry} {n : Nat} {Q : Unit → Shared → Prop}
    (D : Mem h0 h chg ((a, ⟨.type "type", none, .cls c, sl⟩) :: (ns, ⟨.type "dict", none, .dict es n, #[]⟩) :: news))
    (hl : nsLook (Str.ofString "obj") ⟨.type "dict", none, .dict es n, #[]⟩ = pure none) (hz : es.size ≤ 100) (hr : aRefKeyMayBeTheName (Str.ofString "obj") es = false)
    (hf : ∀ hs tk v, (Obj.putName (Str.ofString "obj") hs (.str (Str.ofString "obj") tk) v ⟨.type "dict", none, .dict es n, #[]⟩).isFreed = false)
    (hp : (Data.cls { c with hasDict := false, slotNames := [Str.ofString "obj"] }).pastItsLine = none)
    (x : ∀ b tb hs tk h', Mem h0 h' chg ((b, memD a tb) :: (a, ⟨.type "type", none, .cls { c with hasDict := false, slotNames := [Str.ofString "obj"] }, sl⟩) :: (ns, Obj.putName (Str.ofString "obj") hs (.str (Str.ofString "obj") tk) (.ref b) ⟨.type "dict", none, .dict es n, #[]⟩) :: news) → Q () ⟨h', g, d, t + 2, os⟩) :
    wpAny (model prog w) A (Builtin.Slots.install (.ref a) ns [.type "object"] { names := [Str.ofString "obj"], dict := false, weak := false, inherited := [] }) Q E ⟨h, g, d, t, os⟩ := by
  unfold Builtin.Slots.install
  have q6 := c_gd
  refine wpAny_bind (ml_cons (wpAny_bind (ml_nsGet (D.at 1 _ _ rfl) hl ?_)))
  refine wpAny_ite_true (by decide) ?_
  repeat walk_at "m1"
  refine ml_alloc (o := memD a t) D rfl fun b h1 D1 => ?_
  repeat walk_at "m1"
  refine ml_nsSetV 2 D1 rfl rfl (by rw [sizeLine_eq]; (first | lia | omega)) hr (fun hs tk => hf hs tk _) fun hs tk h2 D2 => ?_
  repeat walk_at "m1"
  refine ml_updateCls (c' := { c with hasDict := false, slotNames := [Str.ofString "obj"] }) 1 D2 rfl rfl hp rfl rfl fun h3 D3 => ?_
  exact x _ _ _ _ _ D3
end
end Mine

end
section
open PySem PySem.W PySem.W.X PySem.Calls PyProof.Rows
set_option Elab.async false
set_option linter.unusedVariables false
namespace Mine
/-- the class made by cmp_to_key -/
noncomputable def clsD (a ns : Addr) (hdd : Bool) (sn : List Str) : ClassData := { name := Str.ofString "K", bases := [.type "object"], mro := [.ref a, .type "object"], ns := ns, qualname := Str.ofString "cmp_to_key.<locals>.K", hasDict := hdd, slotNames := sn }
local macro_rules | `(tactic| x_close) => `(tactic| (solve_by_elim (maxDepth := 3)))
set_option maxRecDepth 100000 in
set_option maxHeartbeats 0 in
theorem super_call : ∀ (prog : Program) (w : World) (h : Heap) (g : Array GenState) (d : Drawn) (t : Nat) (os : OsState) (Q E : Value → Shared → Prop) (a ns : Addr) (sl : Array (Option Value)) (sn : List Str) (hdd : Bool),
    h.get? a = some ⟨.type "type", none, .cls (clsD a ns hdd sn), sl⟩ →
    (∀ b h', Mem h h' [] [(b, { cls := .type "super", data := .fields #[.ref a, .ref a, .ref a] })] → Q (.ref b) ⟨h', g, d, t, os⟩) →
    wpAny (model prog w) (AA 23) (call (.type "super") [.ref a, .ref a]) Q E ⟨h, g, d, t, os⟩ := by
  k_fill
  intro prog w h g d t os Q E a ns sl sn hdd ha hret
  unfold clsD at ha
  x_run
set_option maxRecDepth 100000 in
set_option maxHeartbeats 0 in
theorem get_call : ∀ (prog : Program) (w : World) (h : Heap) (g : Array GenState) (d : Drawn) (t : Nat) (os : OsState) (Q E : Value → Shared → Prop) (a ns : Addr) (sl : Array (Option Value)) (sn : List Str) (hdd : Bool),
    h.get? a = some ⟨.type "type", none, .cls (clsD a ns hdd sn), sl⟩ →
    (∀ b h', Mem h h' [] [(b, { cls := .type "builtin_function_or_method", data := .fields #[.builtin "object.__init_subclass__", .ref a] })] → Q (.ref b) ⟨h', g, d, t, os⟩) →
    wpAny (model prog w) (AA 23) (call (.builtin "classmethod_descriptor.__get__") [.builtin "object.__init_subclass__", .none, .ref a]) Q E ⟨h, g, d, t, os⟩ := by
  k_fill
  intro prog w h g d t os Q E a ns sl sn hdd ha hret
  unfold clsD at ha
  x_run
set_option maxRecDepth 100000 in
set_option maxHeartbeats 0 in
theorem ini_call : ∀ (prog : Program) (w : World) (h : Heap) (g : Array GenState) (d : Drawn) (t : Nat) (os : OsState) (Q E : Value → Shared → Prop) (b a ns : Addr) (sl : Array (Option Value)) (sn : List Str) (hdd : Bool),
    h.get? a = some ⟨.type "type", none, .cls (clsD a ns hdd sn), sl⟩ → h.get? b = some { cls := .type "builtin_function_or_method", data := .fields #[.builtin "object.__init_subclass__", .ref a] } →
    (Q .none ⟨h, g, d, t, os⟩) →
    wpAny (model prog w) (AA 23) (call (.ref b) []) Q E ⟨h, g, d, t, os⟩ := by
  k_fill
  intro prog w h g d t os Q E b a ns sl sn hdd ha hb hret
  unfold clsD at ha
  x_run
end Mine

end
section
open PySem PySem.W PySem.W.X PySem.Calls PyProof.Rows
set_option Elab.async false
set_option linter.unusedVariables false
namespace Mine
theorem c_initsub : classOwn (.type "object") (Str.ofString "__init_subclass__") = pure (some (.builtin "object.__init_subclass__")) := by kernel_rfl
theorem c_tyini : typeOf (.builtin "object.__init_subclass__") = pure (.type "classmethod_descriptor") := by kernel_rfl
theorem c_getini : typeLookup (.type "classmethod_descriptor") (Str.ofString "__get__") = pure (some (.builtin "classmethod_descriptor.__get__")) := by kernel_rfl
theorem drop_mro (a : Addr) : (List.dropWhile (fun x => x != Value.ref a) [.ref a, .type "object"]).drop 1 = [.type "object"] := by simp
section
variable {prog : Program} {w : World} {A : Around} {E : Value → Shared → Prop} {h : Heap} {g : Array GenState} {d : Drawn} {t : Nat} {os : OsState}
theorem noOpaque_ok {a : Addr} {c : ClassData} {cl : Value} {dd : Option Addr} {sl : Array (Option Value)} {oS : Obj} {what how : String} {Q : Unit → Shared → Prop}
    (hS : h.get? cStatics = some oS) (hA : nsLook (Str.ofString "thirdparty.any") oS = pure none) (hq : Q () ⟨h, g, d, t, os⟩) :
    wpAny (model prog w) A (notOfAnOpaqueClass what how (.ref a)) Q E ⟨h, g, d, t, os⟩ := by
  unfold notOfAnOpaqueClass opaqueClassAbove anyOpaqueLoaded
  refine wpAny_bind (wpAny_bind (wpAny_bind (ml_nsGet hS hA (wpAny_pure ?_))))
  exact wpAny_pure (wpAny_pure hq)
theorem super_ga_ok {so a ns : Addr} {sl : Array (Option Value)} {sn : List Str} {hdd : Bool} {oS : Obj} {tk : Tok} {Q : PySem.Fin → Shared → Prop}
    (hh : A.handled = none) (hd : A.depth ≤ 860) (hu : A.units ≤ 7400)
    (hso : h.get? so = some { cls := .type "super", data := .fields #[.ref a, .ref a, .ref a] }) (ha : h.get? a = some ⟨.type "type", none, .cls (clsD a ns hdd sn), sl⟩)
    (hS : h.get? cStatics = some oS) (hA : nsLook (Str.ofString "thirdparty.any") oS = pure none)
    (hq : ∀ b h', Mem h h' [] [(b, { cls := .type "builtin_function_or_method", data := .fields #[.builtin "object.__init_subclass__", .ref a] })] → Q (.done (.ret (.ref b))) ⟨h', g, d, t, os⟩) :
    wpAny (model prog w) A (Builtin.«super.__getattribute__» ⟨[.ref so, .str (Str.ofString "__init_subclass__") tk], []⟩) Q E ⟨h, g, d, t, os⟩ := by
  have hdt : ({ cls := .type "super", data := .fields #[.ref a, .ref a, .ref a] } : Obj).data = .fields #[.ref a, .ref a, .ref a] := rfl
  have f0 : (#[.ref a, .ref a, .ref a] : Array Value)[0]? = some (.ref a) := rfl
  have f1 : (#[.ref a, .ref a, .ref a] : Array Value)[1]? = some (.ref a) := rfl
  have f2 : (#[.ref a, .ref a, .ref a] : Array Value)[2]? = some (.ref a) := rfl
  have hm : mroOf (.ref a) = (do return (← classData a).mro) := rfl
  unfold Builtin.«super.__getattribute__»
  repeat (first
    | (with_reducible refine wpAny_field hso hdt f0 ?_) | (with_reducible refine wpAny_field hso hdt f1 ?_) | (with_reducible refine wpAny_field hso hdt f2 ?_)
    | (with_reducible refine noOpaque_ok (c := default) (cl := default) (dd := default) (sl := default) hS hA ?_)
    | (with_reducible refine wpAny_load ha ?_)
    | (with_reducible show wpAny _ _ (forIn _ _ _) _ _ _; first | refine ml_cons ?_ | refine ml_nil ?_)
    | (with_reducible refine wpAny_of_eq c_initsub ?_) | (with_reducible refine wpAny_of_eq c_tyini ?_) | (with_reducible refine wpAny_of_eq c_getini ?_)
    | ((fail_if_success (with_reducible show wpAny _ _ (call _ _ _) _ _ _)); wp_step)
    | dsimp only
    | (rw [show (clsD a ns hdd sn).mro = [.ref a, .type "object"] from rfl, drop_mro]))
  rw [if_pos (by simp)]
  refine AA_mono 23 (get_call _ _ _ _ _ _ _ _ _ _ _ _ _ _ ha fun b h' D => ?_) hh hd hu
  repeat wp_step
  exact hq _ _ D
theorem getAttr_sup {so a ns : Addr} {sl : Array (Option Value)} {sn : List Str} {hdd : Bool} {oS : Obj} {Q : Value → Shared → Prop}
    (hh : A.handled = none) (hd : A.depth ≤ 840) (hu : A.units ≤ 7300)
    (hso : h.get? so = some { cls := .type "super", data := .fields #[.ref a, .ref a, .ref a] }) (ha : h.get? a = some ⟨.type "type", none, .cls (clsD a ns hdd sn), sl⟩)
    (hS : h.get? cStatics = some oS) (hA : nsLook (Str.ofString "thirdparty.any") oS = pure none)
    (hq : ∀ b h', Mem h h' [] [(b, { cls := .type "builtin_function_or_method", data := .fields #[.builtin "object.__init_subclass__", .ref a] })] → Q (.ref b) ⟨h', g, d, t + 1, os⟩) :
    wpAny (model prog w) A (getAttr (.ref so) (Str.ofString "__init_subclass__")) Q E ⟨h, g, d, t, os⟩ := by
  have hlk := F.ks_slot_super_ga.lookup
  have hT : ∀ t', (⟨h, g, d, t', os⟩ : Shared).TypeIs (.ref so) "super" := fun _ => ⟨_, hso, rfl⟩
  unfold getAttr getAttrBy
  with_reducible refine wpAny_bind (wpAny_mkText (wpAny_holding (wpAny_bind (wpAny_typeOf (hT _) (wpAny_bind (wpAny_of_eq hlk ?_))))))
  show wpAny _ _ (getAttrByItsOwn (.ref so) (.str (Str.ofString "__init_subclass__") t) (.type "super") (.builtin "super.__getattribute__") true false) _ _ _
  unfold getAttrByItsOwn hookBefore callGetattribute boundAndCalled
  with_reducible refine wpAny_bind (wpAny_of_eq (show (if onTheHeap (.type "super") then typeLookup (.type "super") "__getattr__" else pure none) = pure none from rfl) ?_)
  with_reducible refine wpAny_bind (wpAny_attempt (wpAny_holding ?_))
  show wpAny _ _ (bindSpecial (.builtin "super.__getattribute__") (.ref so) >>= _) _ _ _
  with_reducible refine wpAny_bind (wpAny_of_eq (F.ks_slot_super_ga.bind _) ?_)
  refine wpAny_call_entry F.ks_slot_super_ga (hT _) F.ks_entry_super_ga (super_ga_ok ?_ ?_ ?_ hso ha hS hA fun b h' D => ⟨_, rfl, wpAny_pure (hq _ _ D)⟩) (F.ks_gaArgs_super _ _)
  · exact hh
  · show A.in1.depth ≤ 860; exact Nat.le_trans hd (by decide)
  · show A.in1.units ≤ 7400; show A.units + 1 ≤ 7400; (first | lia | omega)
end
end Mine

end
section
open PySem PySem.W PySem.W.X PySem.Calls PyProof.Rows
set_option Elab.async false
set_option linter.unusedVariables false
namespace Mine
theorem filt (a : Addr) : List.filter (fun x => x != Value.ref a) [.ref a, .type "object"] = [.type "object"] := by simp
noncomputable abbrev sO : Str := Str.ofString "obj"
noncomputable abbrev sD : Str := Str.ofString "__doc__"
noncomputable def o2 (es1 : Array DictEntry) (n1 : Nat) (hs : Int) (tk : Tok) (v : Value) : Obj := Obj.putName sO hs (.str sO tk) v ⟨.type "dict", none, .dict es1 n1, #[]⟩
noncomputable def o3 (es1 : Array DictEntry) (n1 : Nat) (hs : Int) (tk : Tok) (v : Value) (hs' : Int) (tk' : Tok) : Obj := Obj.putName sD hs' (.str sD tk') .none (o2 es1 n1 hs tk v)
noncomputable def OkV (h : Heap) (v : Value) : Prop := ∃ T, typeLookup (.type T) (Str.ofString "__set_name__") = pure none ∧ (typeOf v = pure (.type T) ∨ ∃ a o, v = .ref a ∧ h.get? a = some o ∧ o.cls = .type T)
theorem ml_arr_same {prog : Program} {w : World} {A : Around} {E : Value → Shared → Prop} {s : Shared} {α β : Type} {es : Array α} {b : β} {f : α → β → Sem (ForInStep β)} {Q : β → Shared → Prop}
    (hf : ∀ e ∈ es.toList, ∀ (Q' : ForInStep β → Shared → Prop), Q' (.yield b) s → wpAny (model prog w) A (f e b) Q' E s) (h : Q b s) : wpAny (model prog w) A (forIn es b f) Q E s := by
  rw [← Array.forIn_toList]
  generalize es.toList = l at hf
  induction l with
  | nil => exact ml_nil h
  | cons x l ih => exact ml_cons (hf x (.head _) _ (ih fun e he => hf e (.tail _ he)))
theorem set_name_none {prog : Program} {w : World} {A : Around} {E : Value → Shared → Prop} {s : Shared} {v : Value} {Q : Option Value → Shared → Prop} (ok : OkV s.heap v) (h : Q none s) : wpAny (model prog w) A (specialOf v (Str.ofString "__set_name__")) Q E s := by
  obtain ⟨T, hl, h1 | ⟨a, o, rfl, ho, hc⟩⟩ := ok
  · exact wpAny_specialOf_val h1 hl h
  · exact wpAny_specialOf ⟨o, ho, hc⟩ hl h
theorem OkV.keep {h h' : Heap} {v : Value} (x : OkV h v) (k : ∀ b o, h.get? b = some o → h'.get? b = some o) : OkV h' v :=
  let ⟨T, hl, r⟩ := x; ⟨T, hl, r.imp id fun ⟨a, o, e, ho, hc⟩ => ⟨a, o, e, k _ _ ho, hc⟩⟩
theorem c_mem : typeLookup (.type "member_descriptor") (Str.ofString "__set_name__") = pure none := by kernel_rfl
/-- what is asked of the class's namespace -/
structure NsF (h0 : Heap) (es es1 : Array DictEntry) (n1 : Nat) (sl : Addr) (u2 : Tok) : Prop where
  hf : ∃ x4 k4, es.find? (fun e => e.key.isStr (Str.ofString "__slots__")) = some ⟨x4, k4, .ref sl⟩
  ho : es.any (fun e => e.key.isStr (Str.ofString "obj")) = false
  hm : es.any (fun e => e.key.isStr (Str.ofString "__module__")) = true
  hsz : es.size ≤ 100
  hdel : es.any (fun e => e.key.isStr (Str.ofString "__del__")) = false
  l1 : nsLook (Str.ofString "__qualname__") { cls := .type "dict", data := .dict es } = pure (some (.str (Str.ofString "cmp_to_key.<locals>.K") u2))
  l2 : nsLook (Str.ofString "__doc__") { cls := .type "dict", data := .dict es } = pure none
  hh : nsHas (Str.ofString "__qualname__") { cls := .type "dict", data := .dict es } = pure true
  hd1 : Obj.dropName (Str.ofString "__qualname__") { cls := .type "dict", data := .dict es } = ⟨.type "dict", none, .dict es1 n1, #[]⟩
  g1 : nsLook (Str.ofString "__new__") ⟨.type "dict", none, .dict es1 n1, #[]⟩ = pure none
  g2 : nsLook (Str.ofString "__init_subclass__") ⟨.type "dict", none, .dict es1 n1, #[]⟩ = pure none
  g3 : nsLook (Str.ofString "__class_getitem__") ⟨.type "dict", none, .dict es1 n1, #[]⟩ = pure none
  g4 : nsLook (Str.ofString "__classcell__") ⟨.type "dict", none, .dict es1 n1, #[]⟩ = pure none
  g5 : nsLook (Str.ofString "__classdictcell__") ⟨.type "dict", none, .dict es1 n1, #[]⟩ = pure none
  g6 : nsLook (Str.ofString "obj") ⟨.type "dict", none, .dict es1 n1, #[]⟩ = pure none
  hz1 : es1.size ≤ 100
  hr1 : aRefKeyMayBeTheName sO es1 = false
  hf1 : ∀ hs tk v, (o2 es1 n1 hs tk v).isFreed = false
  l3 : ∀ hs tk v, nsLook sD (o2 es1 n1 hs tk v) = pure none
  hd2 : ∀ hs tk v, ∃ es2 n2, (o2 es1 n1 hs tk v).data = .dict es2 n2 ∧ aRefKeyMayBeTheName sD es2 = false
  hf2 : ∀ hs tk v hs' tk', (o3 es1 n1 hs tk v hs' tk').isFreed = false
  l4 : ∀ hs tk v hs' tk', ∃ r, nsLook (Str.ofString "__eq__") (o3 es1 n1 hs tk v hs' tk') = pure (some r)
  l5 : ∀ hs tk v hs' tk', ∃ r, nsLook (Str.ofString "__hash__") (o3 es1 n1 hs tk v hs' tk') = pure (some r)
  hd3 : ∀ hs tk (b : Addr) hs' tk', ∃ es3 n3, (o3 es1 n1 hs tk (.ref b) hs' tk').data = .dict es3 n3 ∧ ∀ e ∈ es3.toList, (∃ n t, e.key = .str n t) ∧ Builtin.laidUnderItsOwnName e.key e.val = false ∧ (e.val = .ref b ∨ OkV h0 e.val)
noncomputable def clsSl (T : Addr) (nt u2 : Tok) : Array (Option Value) := #[some (.ref T), none, some (.str (Str.ofString "K") nt), some (.str (Str.ofString "cmp_to_key.<locals>.K") u2), some (.builtin "object.__new__"), some (.bool false)]
theorem ml_entries {prog : Program} {w : World} {A : Around} {E : Value → Shared → Prop} {s : Shared} {a : Addr} {o : Obj} {es : Array DictEntry} {n : Nat} {Q : Array DictEntry → Shared → Prop} (ho : s.heap.get? a = some o) (hd : o.data = .dict es n) (h : Q es s) : wpAny (model prog w) A (dictEntries a) Q E s := by
  unfold dictEntries
  refine wpAny_bind (wpAny_loadPart ho ?_)
  rw [hd]
  exact wpAny_pure h
theorem mem_kp {h0 h : Heap} {news : List (Addr × Obj)} (D : Mem h0 h [] news) : Kp h0 h := fun b o e => D.keep b o e (by simp [away])
noncomputable def cd0 (ns : Addr) : ClassData := { name := Str.ofString "K", bases := [.type "object"], mro := [], ns := ns, qualname := Str.ofString "cmp_to_key.<locals>.K" }
set_option maxHeartbeats 4000000 in
theorem tn1 {prog : Program} {w : World} {A : Around} {Q : PySem.Fin → Shared → Prop} {E : Value → Shared → Prop} {h0 : Heap} {g d t os} {T nsA sl : Addr} {es : Array DictEntry} {ep : Nat} {nt u4 u2 : Tok} {oS : Obj}
    {es1 : Array DictEntry} {n1 : Nat}
    (hh : A.handled = none) (hd : A.depth ≤ 820) (hu : A.units ≤ 7200)
    (N : NsF h0 es es1 n1 sl u2)
    (hne : (nsA == sysModules) = false)
    (eN : h0.get? nsA = some { cls := .type "dict", data := .dict es ep })
    (eT : h0.get? T = some { cls := .type "tuple", data := .seq #[.type "object"] })
    (eS : h0.get? sl = some { cls := .type "list", data := .seq #[.str (Str.ofString "obj") u4] })
    (hS : h0.get? cStatics = some oS) (hA : nsLook (Str.ofString "thirdparty.any") oS = pure none)
    (hq : ∀ a ns b tb hs tk hs' tk' h' t', Kp h0 h' → h0.get? a = none → h'.get? a = some ⟨.type "type", none, .cls (clsD a ns false [sO]), clsSl T nt u2⟩ → h'.get? ns = some (o3 es1 n1 hs tk (.ref b) hs' tk') → h'.get? b = some (memD a tb) →
      Q (.done (.ret (.ref a))) ⟨h', g, d, t', os⟩)
    : wpAny (model prog w) A (Builtin.«type.__new__» ⟨[.type "type", .str (Str.ofString "K") nt, .ref T, .ref nsA], []⟩) Q E ⟨h0, g, d, t, os⟩ := by
  unfold Builtin.«type.__new__»
  have q8 := c_iter
  have hne' : decide ((nsA == sysModules) = true) = false := by rw [hne]; rfl
  have hm' : decide ((!(es.any fun e => e.key.isStr (Str.ofString "__module__"))) = true) = false := by rw [N.hm]; rfl
  have hw' : decide ((es.isEmpty || some (Value.builtin "dict.__iter__") == some (Value.builtin "dict.__iter__")) = true) = true := by simp
  repeat walk_at "m1"
  obtain ⟨x4, k4, hf⟩ := N.hf
  refine slots_read hf N.ho eS fun h1 hk => ?_
  replace eN := hk _ _ eN; replace eT := hk _ _ eT; replace eS := hk _ _ eS; replace hS := hk _ _ hS
  have D := Mem.start h1
  clear hw' hne' q8 eN hne
  have l1 := N.l1; have l2 := N.l2
  repeat walk_at "m1"
  refine wpAny_ite_false (decide_eq_false (by rw [sizeLine_eq]; have := N.hsz; (first | lia | omega))) ?_
  repeat walk_at "m1"
  refine ml_alloc (o := ⟨.type "dict", none, .dict es 0, #[]⟩) D rfl fun ns h2 D2 => ?_
  clear D
  repeat walk_at "m1"
  refine ml_alloc (o := ⟨.type "type", none, .cls (cd0 ns), #[]⟩) D2 rfl fun a h3 D3 => ?_
  clear D2 l1 l2
  repeat walk_at "m1"
  refine ml_setSlot (sl' := #[some (.ref T)]) (news' := [(a, ⟨.type "type", none, .cls (cd0 ns), #[some (.ref T)]⟩), (ns, ⟨.type "dict", none, .dict es 0, #[]⟩)]) 0 D3 rfl (by decide) rfl rfl rfl fun h4 D4 => ?_
  clear D3
  repeat walk_at "m1"
  refine ml_setSlot (sl' := #[some (.ref T), none, some (.str (Str.ofString "K") nt)]) (news' := [(a, ⟨.type "type", none, .cls (cd0 ns), #[some (.ref T), none, some (.str (Str.ofString "K") nt)]⟩), (ns, ⟨.type "dict", none, .dict es 0, #[]⟩)]) 0 D4 rfl (by decide) rfl rfl rfl fun h5 D5 => ?_
  clear D4
  repeat walk_at "m1"
  refine ml_setSlot (sl' := #[some (.ref T), none, some (.str (Str.ofString "K") nt), some (.str (Str.ofString "cmp_to_key.<locals>.K") u2)]) (news' := [(a, ⟨.type "type", none, .cls (cd0 ns), #[some (.ref T), none, some (.str (Str.ofString "K") nt), some (.str (Str.ofString "cmp_to_key.<locals>.K") u2)]⟩), (ns, ⟨.type "dict", none, .dict es 0, #[]⟩)]) 0 D5 rfl (by decide) rfl rfl rfl fun h6 D6 => ?_
  clear D5
  repeat walk_at "m1"
  refine ml_nsDel 1 D6 rfl N.hh N.hd1 rfl (fun h7 D7 => ?_)
  clear D6
  replace D7 : Mem h1 h7 [] [(a, ⟨.type "type", none, .cls (cd0 ns), #[some (.ref T), none, some (.str (Str.ofString "K") nt), some (.str (Str.ofString "cmp_to_key.<locals>.K") u2)]⟩), (ns, ⟨.type "dict", none, .dict es1 n1, #[]⟩)] := D7
  have g1 := N.g1; have g2 := N.g2; have g3 := N.g3; have g4 := N.g4; have g5 := N.g5
  repeat walk_at "m1"
  clear g2 g3 g4 g5
  rw [filt]
  refine wpAny_of_eq (a := false) (by kernel_rfl) ?_
  repeat walk_at "m1"
  refine ml_updateCls (c' := clsD a ns true []) (news' := [(a, ⟨.type "type", none, .cls (clsD a ns true []), #[some (.ref T), none, some (.str (Str.ofString "K") nt), some (.str (Str.ofString "cmp_to_key.<locals>.K") u2)]⟩), (ns, ⟨.type "dict", none, .dict es1 n1, #[]⟩)]) 0 D7 rfl (by dsimp only; rw [N.hdel]; rfl) rfl rfl rfl fun h8 D8 => ?_
  clear D7
  repeat walk_at "m1"
  have q11 := c_made
  repeat walk_at "m1"
  refine ml_setSlot (sl' := #[some (.ref T), none, some (.str (Str.ofString "K") nt), some (.str (Str.ofString "cmp_to_key.<locals>.K") u2), some (.builtin "object.__new__")]) (news' := [(a, ⟨.type "type", none, .cls (clsD a ns true []), #[some (.ref T), none, some (.str (Str.ofString "K") nt), some (.str (Str.ofString "cmp_to_key.<locals>.K") u2), some (.builtin "object.__new__")]⟩), (ns, ⟨.type "dict", none, .dict es1 n1, #[]⟩)]) 0 D8 rfl (by decide) rfl rfl rfl fun h9 D9 => ?_
  clear D8 q11
  repeat walk_at "m1"
  refine refresh_ok (D9.at 0 _ _ rfl) rfl rfl (D9.at 1 _ _ rfl) g1 ?_
  clear g1
  repeat walk_at "m1"
  refine install_ok D9 N.g6 N.hz1 N.hr1 N.hf1 rfl fun b tb hs tk h10 D10 => ?_
  replace D10 : Mem h1 h10 [] [(b, memD a tb), (a, ⟨.type "type", none, .cls (clsD a ns false [sO]), #[some (.ref T), none, some (.str (Str.ofString "K") nt), some (.str (Str.ofString "cmp_to_key.<locals>.K") u2), some (.builtin "object.__new__")]⟩), (ns, o2 es1 n1 hs tk (.ref b))] := D10
  clear D9
  have q6 := c_gw
  repeat walk_at "m1"
  clear q6
  refine ml_setSlot (sl' := clsSl T nt u2) (news' := [(b, memD a tb), (a, ⟨.type "type", none, .cls (clsD a ns false [sO]), clsSl T nt u2⟩), (ns, o2 es1 n1 hs tk (.ref b))]) 1 D10 rfl (by decide) rfl rfl rfl fun h11 D11 => ?_
  clear D10
  repeat walk_at "m1"
  refine wpAny_of_eq (N.l3 _ _ _) ?_
  repeat walk_at "m1"
  obtain ⟨es2, n2, e2, r2⟩ := N.hd2 hs tk (.ref b)
  refine ml_nsSet 2 D11 rfl e2 r2 (fun hs' tk' => N.hf2 _ _ _ _ _) fun hs' tk' h12 D12 => ?_
  replace D12 : Mem h1 h12 [] [(b, memD a tb), (a, ⟨.type "type", none, .cls (clsD a ns false [sO]), clsSl T nt u2⟩), (ns, o3 es1 n1 hs tk (.ref b) hs' tk')] := D12
  clear D11 e2 r2
  repeat walk_at "m1"
  obtain ⟨v1, e1⟩ := N.l4 hs tk (.ref b) hs' tk'
  refine wpAny_of_eq e1 ?_
  repeat walk_at "m1"
  obtain ⟨v2, e2⟩ := N.l5 hs tk (.ref b) hs' tk'
  refine wpAny_of_eq e2 ?_
  clear e1 e2
  repeat walk_at "m1"
  refine wpAny_of_eq (a := ()) (by kernel_rfl) ?_
  repeat walk_at "m1"
  refine wpAny_tryCatch (wpAny_holding ?_)
  obtain ⟨es3, n3, e3, k3⟩ := N.hd3 hs tk b hs' tk'
  refine wpAny_bind (ml_entries (D12.at 2 _ _ rfl) e3 ?_)
  refine wpAny_bind (ml_arr_same (fun e he Q' hq' => ?_) ?_)
  · obtain ⟨n, tn, hk1⟩ := (k3 e he).1
    rw [hk1]
    exact wpAny_bind (wpAny_pure (wpAny_pure hq'))
  refine wpAny_ite_false rfl ?_
  refine wpAny_bind (ml_entries (D12.at 2 _ _ rfl) e3 ?_)
  refine wpAny_bind (ml_arr_same (fun e he Q' hq' => ?_) ?_)
  · obtain ⟨_, hk2, hk3⟩ := k3 e he
    refine wpAny_ite_false (by rw [hk2]; rfl) (wpAny_bind (set_name_none ?_ (wpAny_pure hq')))
    rcases hk3 with z | z
    · rw [z]; exact ⟨_, c_mem, .inr ⟨b, _, rfl, D12.at 0 _ _ rfl, rfl⟩⟩
    · exact z.keep fun x o ex => mem_kp D12 _ _ (hk _ _ ex)
  refine wpAny_bind (AA_mono 23 (super_call _ _ _ _ _ _ _ _ _ _ _ _ _ _ (D12.at 1 _ _ rfl) fun so h13 D13 => ?_) hh (by (first | lia | omega)) (by (first | lia | omega)))
  refine wpAny_bind (wpAny_holding (getAttr_sup hh (by (first | lia | omega)) (by (first | lia | omega)) (D13.at 0 _ _ rfl) (mem_kp D13 _ _ (D12.at 1 _ _ rfl)) (mem_kp D13 _ _ (mem_kp D12 _ _ hS)) hA fun f h14 D14 => ?_))
  refine wpAny_bind (AA_mono 23 (ini_call _ _ _ _ _ _ _ _ _ _ _ _ _ _ _ (mem_kp D14 _ _ (mem_kp D13 _ _ (D12.at 1 _ _ rfl))) (D14.at 0 _ _ rfl) ?_) hh (by (first | lia | omega)) (by (first | lia | omega)))
  refine wpAny_pure (wpAny_pure ?_)
  refine hq a ns b tb hs tk hs' tk' h14 _ (fun x o ex => mem_kp D14 _ _ (mem_kp D13 _ _ (mem_kp D12 _ _ (hk _ _ ex)))) ?_ (mem_kp D14 _ _ (mem_kp D13 _ _ (D12.at 1 _ _ rfl))) (mem_kp D14 _ _ (mem_kp D13 _ _ (D12.at 2 _ _ rfl))) (mem_kp D14 _ _ (mem_kp D13 _ _ (D12.at 0 _ _ rfl)))
  cases q : h0.get? a with
  | none => rfl
  | some o => exact absurd (hk _ _ q) (by rw [(D12.nw _ (.tail _ (.head _))).2]; exact fun z => nomatch z)
end Mine

end
section
open PySem PySem.W PySem.W.X PySem.Calls PyProof.Rows
set_option Elab.async false
set_option linter.unusedVariables false
namespace Mine
local macro_rules | `(tactic| x_close) => `(tactic| first | (rename (∀ (_ : Addr) (_ : Heap) (_ : String), _) => hq; exact hq _ _ _ (by assumption) (by kernel_rfl!)) | (rename (∀ (_ : Addr) (_ : Heap), _) => hq; exact hq _ _ (by assumption)))
noncomputable def pbO (st : String) : Obj := { cls := .type "builtin_function_or_method", data := .fields #[.builtin st, .type "type"] }
set_option maxRecDepth 100000 in
set_option maxHeartbeats 0 in
theorem prep_call : ∀ (prog : Program) (w : World) (h : Heap) (g : Array GenState) (d : Drawn) (t : Nat) (os : OsState) (Q E : Value → Shared → Prop) (tk : Tok),
    (∀ b h' st, Mem h h' [] [(b, { cls := .type "builtin_function_or_method", data := .fields #[.builtin st, .type "type"] })] → st = "type.__prepare__" → Q (.ref b) ⟨h', g, d, t, os⟩) →
    wpAny (model prog w) (AA 23) (call (.builtin "type.__getattribute__") [.type "type", .str (Str.ofString "__prepare__") tk]) Q E ⟨h, g, d, t, os⟩ := by
  k_fill
  intro prog w h g d t os Q E tk hret
  x_run
set_option maxRecDepth 100000 in
set_option maxHeartbeats 0 in
theorem prep_call2 : ∀ (prog : Program) (w : World) (h : Heap) (g : Array GenState) (d : Drawn) (t : Nat) (os : OsState) (Q E : Value → Shared → Prop) (tk : Tok) (b T : Addr),
    h.get? b = some { cls := .type "builtin_function_or_method", data := .fields #[.builtin "type.__prepare__", .type "type"] } →
    (∀ b h', Mem h h' [] [(b, { cls := .type "dict", data := .dict #[] })] → Q (.ref b) ⟨h', g, d, t, os⟩) →
    wpAny (model prog w) (AA 23) (call (.ref b) [.str (Str.ofString "K") tk, .ref T]) Q E ⟨h, g, d, t, os⟩ := by
  k_fill
  intro prog w h g d t os Q E tk b T hb hret
  x_run
theorem c_tyga : typeLookup (.type "type") (Str.ofString "__getattribute__") = pure (some (.builtin "type.__getattribute__")) := by kernel_rfl
theorem c_tyty : typeOf (.type "type") = pure (.type "type") := by kernel_rfl
theorem c_bindga (v : Value) : bindSpecial (.builtin "type.__getattribute__") v = pure (.builtin "type.__getattribute__", [v]) := by kernel_rfl
theorem prep_get {prog : Program} {w : World} {A : Around} {E : Value → Shared → Prop} {h : Heap} {g : Array GenState} {d : Drawn} {t : Nat} {os : OsState} {Q : Option Value → Shared → Prop}
    (hh : A.handled = none) (hd : A.depth ≤ 860) (hu : A.units ≤ 7400)
    (hq : ∀ b h', Mem h h' [] [(b, { cls := .type "builtin_function_or_method", data := .fields #[.builtin "type.__prepare__", .type "type"] })] → Q (some (.ref b)) ⟨h', g, d, t + 1, os⟩) :
    wpAny (model prog w) A (getAttr? (.type "type") (Str.ofString "__prepare__")) Q E ⟨h, g, d, t, os⟩ := by
  unfold getAttr? getAttrBy? getAttrBy
  with_reducible refine wpAny_bind (wpAny_mkText (wpAny_bind (wpAny_attempt (wpAny_holding (wpAny_bind (wpAny_of_eq c_tyty (wpAny_bind (wpAny_of_eq c_tyga ?_))))))))
  show wpAny _ _ (getAttrByItsOwn (.type "type") (.str (Str.ofString "__prepare__") t) (.type "type") (.builtin "type.__getattribute__") false false) _ _ _
  unfold getAttrByItsOwn hookBefore callGetattribute boundAndCalled
  with_reducible refine wpAny_bind (wpAny_of_eq (show (if onTheHeap (.type "type") then typeLookup (.type "type") "__getattr__" else pure none) = pure none from rfl) ?_)
  with_reducible refine wpAny_bind (wpAny_attempt (wpAny_holding ?_))
  show wpAny _ _ (bindSpecial (.builtin "type.__getattribute__") (.type "type") >>= _) _ _ _
  with_reducible refine wpAny_bind (wpAny_of_eq (c_bindga _) ?_)
  refine AA_mono 23 (prep_call _ _ _ _ _ _ _ _ _ _ fun b h' st D e => ?_) hh hd hu
  subst e
  exact wpAny_pure (wpAny_pure (hq _ _ D))
end Mine

end
section
open PySem PySem.W PySem.Calls PyProof.Rows
set_option Elab.async false
set_option linter.unusedVariables false
namespace Mine
open PySem.W.X (tableObj)
section
variable {prog : Program} {w : World} {A : Around} {E : Value → Shared → Prop} {s : Shared}
noncomputable def fnCode (name qual file : Str) (fl argc po kwn flags text : Nat) (isF : Bool) (fr P : Addr) (lo ce tm : Value) (t1 t2 t3 t4 : Tok) (u : Nat) : Obj :=
  { cls := .type "code", data := .fields #[.str name t1, .str qual t2, .str file t3, rawInt fl, rawInt argc, rawInt po, rawInt kwn, rawInt flags, .ref fr, .bool isF, rawInt text, .ref P, .none, lo, ce, tm, rawInt u, rawInt fl, .str file t4] }
theorem gps {h : Heap} {o o' : Obj} (e : o = o') (hf : o'.isFreed = false) : (h.push o).get? h.objs.size = some o' := e ▸ Heap.get?_push_size h (e ▸ hf)
noncomputable def IsFn (name qual file : Str) (fl argc po kwn flags text : Nat) (isF : Bool) (P : Addr) (o : Obj) : Prop :=
  ∃ (fr lo ce tm : Addr) (t1 t2 t3 t4 : Tok) (u : Nat), o = fnCode name qual file fl argc po kwn flags text isF fr P (.ref lo) (.ref ce) (.ref tm) t1 t2 t3 t4 u
noncomputable def IsCl (name qual file : Str) (fl argc po kwn flags text : Nat) (isF : Bool) (P : Addr) (o : Obj) : Prop :=
  ∃ (fr : Addr) (t1 t2 t3 t4 : Tok) (u : Nat), o = fnCode name qual file fl argc po kwn flags text isF fr P .none .none .none t1 t2 t3 t4 u
theorem newCode_fn {ctx : CodeContext} {name qualname : Str} {firstLine argc posonly kwonly flags : Nat} {free : List Str} {isFunction : Bool} {l : List Str × List Str} {fd : FuncData} {Q : Value → Shared → Prop}
    (hQ : ∀ c P o h' tk, Kp s.heap h' → s.heap.objs.size ≤ c → s.heap.objs.size ≤ P → h'.get? c = some o → IsFn name qualname ctx.file firstLine argc posonly kwonly flags ctx.text (isFunction || ctx.inFunction) P o →
      h'.get? P = some (tableObj #[]) → Q (.ref c) { s with heap := h', toks := tk }) :
    wpAny (model prog w) A (newCode ctx name qualname firstLine argc posonly kwonly flags free isFunction none (some l) (some fd)) Q E s := by
  unfold newCode
  refine wpAny_bind (wpAny_mkText (wpAny_bind (wpAny_mkText (wpAny_bind (wpAny_mkText (wpAny_bind (wpAny_mkStrs fun fs =>
    wpAny_bind (wpAny_newObjAsIs_type (wpAny_bind (wpAny_alloc ?_))))))))))
  refine wpAny_bind (wpAny_mkStrs fun a => wpAny_bind (wpAny_newObjAsIs_type (wpAny_bind (wpAny_mkStrs fun b => wpAny_bind (wpAny_newObjAsIs_type
        (wpAny_bind (wpAny_bind (wpAny_alloc (wpAny_pure (wpAny_bind (wpAny_fresh (wpAny_bind (wpAny_mkText (wpAny_newObj_type ?_ (by size_fits)))))))))))))))
  exact hQ _ _ _ _ _ (fun b o e => Heap.get?_push_of_some _ (Heap.get?_push_of_some _ (Heap.get?_push_of_some _ (Heap.get?_push_of_some _ (Heap.get?_push_of_some _ (Heap.get?_push_of_some _ (e))))))) (by simp only [Heap.size_push]; (first | lia | omega)) (by simp only [Heap.size_push]; (first | lia | omega)) (gps rfl rfl) ⟨_, _, _, _, _, _, _, _, _, rfl⟩ (Heap.get?_push_of_some _ (Heap.get?_push_of_some _ (Heap.get?_push_of_some _ (Heap.get?_push_of_some _ (gps rfl rfl)))))
theorem newCode_cls {ctx : CodeContext} {name qualname : Str} {firstLine argc posonly kwonly flags : Nat} {free : List Str} {isFunction : Bool} {Q : Value → Shared → Prop}
    (hQ : ∀ c P o h' tk, Kp s.heap h' → s.heap.objs.size ≤ c → s.heap.objs.size ≤ P → h'.get? c = some o → IsCl name qualname ctx.file firstLine argc posonly kwonly flags ctx.text (isFunction || ctx.inFunction) P o →
      h'.get? P = some (tableObj #[]) → Q (.ref c) { s with heap := h', toks := tk }) :
    wpAny (model prog w) A (newCode ctx name qualname firstLine argc posonly kwonly flags free isFunction none none none) Q E s := by
  unfold newCode
  refine wpAny_bind (wpAny_mkText (wpAny_bind (wpAny_mkText (wpAny_bind (wpAny_mkText (wpAny_bind (wpAny_mkStrs fun fs =>
    wpAny_bind (wpAny_newObjAsIs_type (wpAny_bind (wpAny_alloc ?_))))))))))
  refine wpAny_bind (wpAny_pure (wpAny_bind (wpAny_pure (wpAny_bind (wpAny_pure (wpAny_bind (wpAny_fresh (wpAny_bind (wpAny_mkText (wpAny_newObj_type ?_ (by size_fits)))))))))))
  exact hQ _ _ _ _ _ (fun b o e => Heap.get?_push_of_some _ (Heap.get?_push_of_some _ (Heap.get?_push_of_some _ (e)))) (by simp only [Heap.size_push]; (first | lia | omega)) (by simp only [Heap.size_push]; (first | lia | omega)) (gps rfl rfl) ⟨_, _, _, _, _, _, rfl⟩ (Heap.get?_push_of_some _ (gps rfl rfl))
theorem codeAt_ok {env : Env} {c P : Addr} {vs ps : Array Value} {pos : Pos} {make : CodeContext → Sem Value} {file : Str} {flags text : Int} {inF : Bool} {tf tg tt : Tok} {Q : Value → Shared → Prop} {So : Addr → Obj → Prop}
    (hc : env.code = .ref c) (ho : s.heap.get? c = some ⟨.type "code", none, .fields vs, #[]⟩) (h11 : vs.getD 11 .none = .ref P) (h2 : vs.getD 18 .none = .str file tf) (h7 : vs.getD 7 .none = .int flags tg) (h9 : vs.getD 9 .none = .bool inF) (h10 : vs.getD 10 .none = .int text tt)
    (hP : s.heap.get? P = some (tableObj ps)) (hnf : codeAmong pos ps.toList = none) (hsn : ∀ c', codeAmong pos (ps ++ #[rawInt pos.line, rawInt pos.col, .ref c']).toList = some (.ref c'))
    (hmake : ∀ Q' : Value → Shared → Prop, (∀ c' P' o' h' tk, Kp s.heap h' → s.heap.objs.size ≤ c' → s.heap.objs.size ≤ P' → h'.get? c' = some o' → So P' o' → h'.get? P' = some (tableObj #[]) → Q' (.ref c') { s with heap := h', toks := tk }) →
      wpAny (model prog w) A (make { file, future := flags.toNat &&& (coFutureAnnotations ||| coFutureBarry), inFunction := inF || env.scope.kind == .function, text := text.toNat }) Q' E s)
    (hQ : ∀ c' P' o' h' tk, (∀ b o, b ≠ P → s.heap.get? b = some o → h'.get? b = some o) → s.heap.objs.size ≤ c' → s.heap.objs.size ≤ P' → h'.get? c' = some o' → So P' o' → h'.get? P' = some (tableObj #[]) → h'.get? P = some (tableObj (ps ++ #[rawInt pos.line, rawInt pos.col, .ref c'])) → Q (.ref c') { s with heap := h', toks := tk }) :
    wpAny (model prog w) A (codeAt env pos make) Q E s := by
  unfold codeAt
  rw [hc, if_neg (show ¬ ((Value.ref c == Value.none) = true) from Bool.false_ne_true)]
  refine wpAny_bind (wpAny_fieldsOf ho rfl ?_)
  rw [h11]
  refine wpAny_bind (wpAny_fieldsOf hP rfl ?_)
  rw [hnf, h2, h7, h9, h10]
  refine wpAny_bind (hmake _ fun c' P' o' h' tk hk hc' hP' ho' hSo hT' => ?_)
  have hop' := hk _ _ hP
  refine wpAny_bind (wpAny_updateFieldsOfTheText hop' rfl ?_)
  have hnew : (Obj.mapFields (fun vs => if (codeAmong pos vs.toList).isSome = true then vs else vs ++ #[rawInt pos.line, rawInt pos.col, .ref c']) (tableObj ps)) = tableObj (ps ++ #[rawInt pos.line, rawInt pos.col, .ref c']) := by
    unfold tableObj Obj.mapFields; simp [hnf]
  have hget := Heap.get?_update_self (h := h') (fun o => Obj.mapFields (fun vs => if (codeAmong pos vs.toList).isSome = true then vs else
    vs ++ #[rawInt pos.line, rawInt pos.col, .ref c']) o) hop' (by rw [hnew]; rfl)
  rw [hnew] at hget
  have hsb := (Heap.SameBut.update h' P (fun o => Obj.mapFields (fun vs => if (codeAmong pos vs.toList).isSome = true then vs else
    vs ++ #[rawInt pos.line, rawInt pos.col, .ref c']) o)).extBut
  refine wpAny_bind (wpAny_fieldsOf hget rfl ?_)
  rw [hsn]
  have lP : P < s.heap.objs.size := Heap.lt_size hP
  exact wpAny_pure (hQ c' P' o' _ _ (fun b o hb e => hsb b o hb (hk b o e)) hc' hP' (hsb _ _ (Nat.ne_of_gt (Nat.lt_of_lt_of_le lP hc')) ho') hSo (hsb _ _ (Nat.ne_of_gt (Nat.lt_of_lt_of_le lP hP')) hT') hget)
end
end Mine

end
section
open PySem PySem.W PySem.Calls PyProof.Rows
set_option Elab.async false
set_option linter.unusedVariables false
namespace Mine
open PySem.W.X (tableObj)
/-- what a function's body is read by -/
noncomputable def fdOf (name qualname : Str) (params : Arguments) (body : List Stmt) (scope : Scope) (cl : List (Str × Addr)) (ct : Value) (c' : Addr) (pm : Value) : FuncData :=
  { name, qualname, params, body := .stmts body, scope, globals := mainGlobals, closure := cl, closureTuple := ct, defaults := .none, kwdefaults := .none, pyModule := pm, code := .ref c', builtins := builtinsNs }
noncomputable def fnObj (name qualname : Str) (params : Arguments) (body : List Stmt) (scope : Scope) (cl : List (Str × Addr)) (ct : Value) (c' : Addr) (pm : Value) : Obj := { cls := .type "function", data := .func (fdOf name qualname params body scope cl ct c' pm) }
/-- the code that is run: its record and its table of codes -/
structure CodeNow (h : Heap) (cc P : Addr) (ps : Array Value) (file : Str) (text : Nat) : Prop where
  rcd : ∃ o name qual fl fr flags t1 t2 t3 t4 u, h.get? cc = some o ∧ o = fnCode name qual file fl 0 0 0 flags text true fr P .none .none .none t1 t2 t3 t4 u ∧ flags &&& (coFutureAnnotations ||| coFutureBarry) = 0
  tab : h.get? P = some (tableObj ps)
  ne : cc ≠ P
section
variable {prog : Program} {w : World} {A : Around} {E : Value → Shared → Prop} {s : Shared}
theorem fnCode_ok {env : Env} {cc P : Addr} {ps : Array Value} {pos : Pos} {firstLine : Nat} {name qualname : Str} {p : Arguments} {scope : Scope} {body : List Stmt} {file : Str} {text : Nat} {l : List Str × List Str} {Q : Value → Shared → Prop}
    (hc : env.code = .ref cc) (C : CodeNow s.heap cc P ps file text) (hnf : codeAmong pos ps.toList = none) (hsn : ∀ c', codeAmong pos (ps ++ #[rawInt pos.line, rawInt pos.col, .ref c']).toList = some (.ref c')) (hl : localNames p scope (.stmts body) = some l)
    (hQ : ∀ c' P' o' h' tk, (∀ b o, b ≠ P → s.heap.get? b = some o → h'.get? b = some o) → s.heap.objs.size ≤ c' → s.heap.objs.size ≤ P' → h'.get? c' = some o' →
      IsFn name qualname file firstLine (p.posonlyargs.length + p.args.length) p.posonlyargs.length p.kwonlyargs.length (functionFlags p.vararg.isSome p.kwarg.isSome scope { file, future := 0, inFunction := true, text }) text true P' o' → h'.get? P' = some (tableObj #[]) →
      CodeNow h' cc P (ps ++ #[rawInt pos.line, rawInt pos.col, .ref c']) file text → Q (.ref c') { s with heap := h', toks := tk }) :
    wpAny (model prog w) A (functionCode env pos firstLine name qualname p scope (.stmts body)) Q E s := by
  obtain ⟨⟨o, nm, ql, fl, fr, flags, t1, t2, t3, t4, u, ho, rfl, hfl⟩, hT, hne⟩ := id C
  unfold functionCode
  rw [hl]
  refine codeAt_ok (So := fun P' o' => IsFn name qualname file firstLine (p.posonlyargs.length + p.args.length) p.posonlyargs.length p.kwonlyargs.length (functionFlags p.vararg.isSome p.kwarg.isSome scope { file, future := 0, inFunction := true, text }) text true P' o') hc ho rfl rfl rfl rfl rfl hT hnf hsn ?_ ?_
  · intro Q' hQ'
    have e1 : (flags : Int).toNat &&& (coFutureAnnotations ||| coFutureBarry) = 0 := hfl
    rw [e1]
    refine newCode_fn fun c' P' o' h' tk k1 k2 k3 k4 k5 k6 => hQ' c' P' o' h' tk k1 k2 k3 k4 ?_ k6
    exact k5
  · intro c' P' o' h' tk k1 k2 k3 k4 k5 k6 k7
    exact hQ c' P' o' h' tk k1 k2 k3 k4 k5 k6 ⟨⟨_, nm, ql, fl, fr, flags, t1, t2, t3, t4, u, k1 _ _ hne ho, rfl, hfl⟩, k7, hne⟩
/-- what the globals say of the builtins -/
structure GlobB (h : Heap) (mg : Str → Option Value) (bm : Addr) (o : Obj) : Prop where
  g : h.Ns mainGlobals mg
  b : mg (Str.ofString "__builtins__") = some (.ref bm)
  ne0 : bm ≠ builtinsNs
  at_ : h.get? bm = some o
  cls : o.cls = .type "module"
  dict : o.dict = some builtinsNs
  data : o.data = .plain
theorem mkFn0 {env : Env} {cc P bm : Addr} {ob : Obj} {mg : Str → Option Value} {ps : Array Value} {pos : Pos} {firstLine : Nat} {name qualname : Str} {p : Arguments} {scope : Scope} {body : List Stmt} {file : Str} {text : Nat} {l : List Str × List Str} {Q : Value → Shared → Prop}
    (hcl : closureFor scope env = pure []) (hdoc : docOf body = none) (hge : env.globals = mainGlobals) (G : GlobB s.heap mg bm ob) (hgP : mainGlobals ≠ P) (hbP : bm ≠ P)
    (hc : env.code = .ref cc) (C : CodeNow s.heap cc P ps file text) (hnf : codeAmong pos ps.toList = none) (hsn : ∀ c', codeAmong pos (ps ++ #[rawInt pos.line, rawInt pos.col, .ref c']).toList = some (.ref c')) (hl : localNames p scope (.stmts body) = some l)
    (hQ : ∀ f c' P' o' h' tk, (∀ b o, b ≠ P → s.heap.get? b = some o → h'.get? b = some o) → s.heap.objs.size ≤ f → s.heap.objs.size ≤ c' → s.heap.objs.size ≤ P' → h'.get? c' = some o' →
      IsFn name qualname file firstLine (p.posonlyargs.length + p.args.length) p.posonlyargs.length p.kwonlyargs.length (functionFlags p.vararg.isSome p.kwarg.isSome scope { file, future := 0, inFunction := true, text }) text true P' o' → h'.get? P' = some (tableObj #[]) →
      CodeNow h' cc P (ps ++ #[rawInt pos.line, rawInt pos.col, .ref c']) file text → h'.get? f = some (fnObj name qualname p body scope [] .none c' ((mg (Str.ofString "__name__")).getD .none)) → Q (.ref f) { s with heap := h', toks := tk }) :
    wpAny (model prog w) A (makeFunction name qualname p (.stmts body) scope env [] [] [] pos firstLine) Q E s := by
  simp only [makeFunction, List.zip_nil_right, List.filterMap_nil, List.isEmpty_nil, if_true, pure_bind, hcl, hdoc]
  refine wpAny_bind (fnCode_ok hc C hnf hsn hl fun c' P' o' h' tk k1 k2 k3 k4 k5 k6 k7 => ?_)
  have hg' : h'.Ns mainGlobals mg := G.g.extBut k1 hgP
  rw [hge]
  refine wpAny_bind (wpAny_builtinsFor hg' G.b G.ne0 (k1 _ _ hbP G.at_) G.cls G.dict G.data ?_)
  refine wpAny_bind (wpAny_nsGet hg' ?_)
  simp only [newObj]
  refine wpAny_bind (wpAny_alloc (wpAny_pure ?_))
  have hsz : s.heap.objs.size ≤ h'.objs.size := Nat.le_trans k2 (Nat.le_of_lt (Heap.lt_size k4))
  obtain ⟨⟨o, nm, ql, fl, fr, flags, t1, t2, t3, t4, u, ho, e1, hfl⟩, hT, hne⟩ := k7
  exact hQ _ c' P' o' _ _ (fun b o hb e => Heap.get?_push_of_some _ (k1 b o hb e)) hsz k2 k3 (Heap.get?_push_of_some _ k4) k5 (Heap.get?_push_of_some _ k6) ⟨⟨o, nm, ql, fl, fr, flags, t1, t2, t3, t4, u, Heap.get?_push_of_some _ ho, e1, hfl⟩, Heap.get?_push_of_some _ hT, hne⟩ (gps rfl rfl)
theorem mkFn1 {x : Str} {cell : Addr} {env : Env} {cc P bm : Addr} {ob : Obj} {mg : Str → Option Value} {ps : Array Value} {pos : Pos} {firstLine : Nat} {name qualname : Str} {p : Arguments} {scope : Scope} {body : List Stmt} {file : Str} {text : Nat} {l : List Str × List Str} {Q : Value → Shared → Prop}
    (hcl : closureFor scope env = pure [(x, cell)]) (hdoc : docOf body = none) (hge : env.globals = mainGlobals) (G : GlobB s.heap mg bm ob) (hgP : mainGlobals ≠ P) (hbP : bm ≠ P)
    (hc : env.code = .ref cc) (C : CodeNow s.heap cc P ps file text) (hnf : codeAmong pos ps.toList = none) (hsn : ∀ c', codeAmong pos (ps ++ #[rawInt pos.line, rawInt pos.col, .ref c']).toList = some (.ref c')) (hl : localNames p scope (.stmts body) = some l)
    (hQ : ∀ f ct c' P' o' h' tk, (∀ b o, b ≠ P → s.heap.get? b = some o → h'.get? b = some o) → s.heap.objs.size ≤ f → s.heap.objs.size ≤ c' → s.heap.objs.size ≤ P' → h'.get? c' = some o' →
      IsFn name qualname file firstLine (p.posonlyargs.length + p.args.length) p.posonlyargs.length p.kwonlyargs.length (functionFlags p.vararg.isSome p.kwarg.isSome scope { file, future := 0, inFunction := true, text }) text true P' o' → h'.get? P' = some (tableObj #[]) →
      CodeNow h' cc P (ps ++ #[rawInt pos.line, rawInt pos.col, .ref c']) file text → h'.get? f = some (fnObj name qualname p body scope [(x, cell)] (.ref ct) c' ((mg (Str.ofString "__name__")).getD .none)) → Q (.ref f) { s with heap := h', toks := tk }) :
    wpAny (model prog w) A (makeFunction name qualname p (.stmts body) scope env [] [] [] pos firstLine) Q E s := by
  simp only [makeFunction, List.zip_nil_right, List.filterMap_nil, List.isEmpty_nil, if_true, pure_bind, hcl, hdoc]
  refine wpAny_bind (m := newTextTuple _) (wpAny_newObjAsIs_type ?_)
  have C' : CodeNow (s.heap.push { cls := .type "tuple", dict := none, data := .seq ((List.mergeSort [(x, cell)] fun a b => decide (a.1.cps.toList ≤ b.1.cps.toList)).map (fun y => Value.ref y.2)).toArray }) cc P ps file text := by
    obtain ⟨⟨o, nm, ql, fl, fr, flags, t1, t2, t3, t4, u, ho, e1, hfl⟩, hT, hne⟩ := C
    exact ⟨⟨o, nm, ql, fl, fr, flags, t1, t2, t3, t4, u, Heap.get?_push_of_some _ ho, e1, hfl⟩, Heap.get?_push_of_some _ hT, hne⟩
  refine wpAny_bind (fnCode_ok hc C' hnf hsn hl fun c' P' o' h' tk k1' k2' k3' k4 k5 k6 k7 => ?_)
  have k1 : ∀ b o, b ≠ P → s.heap.get? b = some o → h'.get? b = some o := fun b o hb e => k1' b o hb (Heap.get?_push_of_some _ e)
  have k2 : s.heap.objs.size ≤ c' := Nat.le_trans (Nat.le_succ _) (Nat.le_trans (Nat.le_of_eq (Heap.size_push ..).symm) k2')
  have k3 : s.heap.objs.size ≤ P' := Nat.le_trans (Nat.le_succ _) (Nat.le_trans (Nat.le_of_eq (Heap.size_push ..).symm) k3')
  have hg' : h'.Ns mainGlobals mg := G.g.extBut k1 hgP
  rw [hge]
  refine wpAny_bind (wpAny_builtinsFor hg' G.b G.ne0 (k1 _ _ hbP G.at_) G.cls G.dict G.data ?_)
  refine wpAny_bind (wpAny_nsGet hg' ?_)
  simp only [newObj]
  refine wpAny_bind (wpAny_alloc (wpAny_pure ?_))
  have hsz : s.heap.objs.size ≤ h'.objs.size := Nat.le_trans k2 (Nat.le_of_lt (Heap.lt_size k4))
  obtain ⟨⟨o, nm, ql, fl, fr, flags, t1, t2, t3, t4, u, ho, e1, hfl⟩, hT, hne⟩ := k7
  exact hQ _ _ c' P' o' _ _ (fun b o hb e => Heap.get?_push_of_some _ (k1 b o hb e)) hsz k2 k3 (Heap.get?_push_of_some _ k4) k5 (Heap.get?_push_of_some _ k6) ⟨⟨o, nm, ql, fl, fr, flags, t1, t2, t3, t4, u, Heap.get?_push_of_some _ ho, e1, hfl⟩, Heap.get?_push_of_some _ hT, hne⟩ (gps rfl rfl)
end
end Mine

end
section
open PySem PySem.W PySem.Calls PyProof.Rows
set_option Elab.async false
set_option linter.unusedVariables false
namespace Mine
open PySem.W.X (tableObj)
noncomputable def cEnv (csc : Scope) (nsA cc fr cell : Addr) : Env := { scope := csc, locals := nsA, globals := mainGlobals, cells := [(Str.ofString "mycmp", cell)], qual := Str.ofString "cmp_to_key.<locals>.K" ++ ".", code := .ref cc, frame := some fr, builtins := builtinsNs }
noncomputable def dObj (es : Array DictEntry) (n : Nat) : Obj := ⟨.type "dict", none, .dict es n, #[]⟩
/-- the class body's heap: what stood ahead of it, its namespace, its code -/
structure BodyAt (h0 : Heap) (nsA cc P : Addr) (file : Str) (text : Nat) (own : List (Addr × Obj)) (es : Array DictEntry) (n : Nat) (ps : Array Value) (h : Heap) : Prop where
  keep : ∀ b o, b ≠ P → b ≠ nsA → h0.get? b = some o → h.get? b = some o
  own : ∀ p ∈ own, p.1 ≠ P ∧ p.1 ≠ nsA ∧ h.get? p.1 = some p.2
  ns : h.get? nsA = some (dObj es n)
  code : CodeNow h cc P ps file text
  ne : cc ≠ nsA ∧ P ≠ nsA
section
variable {prog : Program} {w : World} {A : Around} {E : Value → Shared → Prop} {s : Shared} {csc : Scope} {nsA cc fr cell : Addr}
theorem cstore {x : Str} {v : Value} {es : Array DictEntry} {n : Nat} {Q : Unit → Shared → Prop} (hk : csc.kind = .class) (hx : csc.names.lookup x = some .local ∨ (csc.names.lookup x = none ∧ compilersOwnNames.contains x = true))
    (ho : s.heap.get? nsA = some (dObj es n)) (hr : aRefKeyMayBeTheName x es = false)
    (hQ : ∀ hs tk h', Heap.SameBut nsA s.heap h' → h'.get? nsA = some (Obj.putName x hs (.str x tk) v (dObj es n)) → Q () { s with heap := h', toks := s.toks + 1 })
    (hf : ∀ hs tk, (Obj.putName x hs (.str x tk) v (dObj es n)).isFreed = false) :
    wpAny (model prog w) A (storeName (cEnv csc nsA cc fr cell) x v) Q E s := by
  have key : wpAny (model prog w) A (localSet (cEnv csc nsA cc fr cell) x v) Q E s := by
    unfold localSet
    refine wpAny_bind (wpAny_load ho ?_)
    refine wpAny_ite_true rfl ?_
    unfold nsSet strHash mkText
    refine wpAny_bind (wpAny_bind (PySem.W.X.x_ask (wpAny_pure (wpAny_pure ?_))))
    refine wpAny_bind (wpAny_bind (wpAny_fresh (wpAny_pure ?_)))
    refine wpAny_bind (wpAny_loadPart ho ?_)
    show wpAny _ _ (if aRefKeyMayBeTheName x es = true then _ else _) _ _ _
    rw [hr]
    refine wpAny_updatePart ho ?_
    exact hQ _ _ _ (Heap.SameBut.update ..) (Heap.get?_update_self _ ho (hf _ _))
  unfold storeName
  rcases hx with hx | ⟨hx, hc⟩
  · have h1 : (cEnv csc nsA cc fr cell).kindOf x = some .local := hx
    rw [h1]
    have h2 : (((cEnv csc nsA cc fr cell).scope.kind == ScopeKind.class || ((cEnv csc nsA cc fr cell).scope.kind == ScopeKind.module && (cEnv csc nsA cc fr cell).locals != (cEnv csc nsA cc fr cell).globals)) = true) := by
      show ((csc.kind == ScopeKind.class || _) = true); rw [hk]; rfl
    exact (if_pos h2) ▸ key
  · have h1 : (cEnv csc nsA cc fr cell).kindOf x = none := hx
    rw [h1]
    have h2 : (((cEnv csc nsA cc fr cell).scope.kind == ScopeKind.class || ((cEnv csc nsA cc fr cell).scope.kind == ScopeKind.module && (cEnv csc nsA cc fr cell).locals != (cEnv csc nsA cc fr cell).globals)) = true) := by
      show ((csc.kind == ScopeKind.class || _) = true); rw [hk]; rfl
    have h3 : ¬ (((cEnv csc nsA cc fr cell).blockKind == ScopeKind.function || (((cEnv csc nsA cc fr cell).scope.kind == ScopeKind.class || ((cEnv csc nsA cc fr cell).scope.kind == ScopeKind.module && (cEnv csc nsA cc fr cell).locals != (cEnv csc nsA cc fr cell).globals)) && !compilersOwnNames.contains x)) = true) := by
      rw [hc, Bool.not_true, Bool.and_false, Bool.or_false]
      show ¬ (((if csc.kind.isAnnotationScope = true then ScopeKind.function else csc.kind) == ScopeKind.function) = true)
      rw [hk]; decide
    refine wpAny_ite_false (decide_eq_false h3) ?_
    exact (if_pos h2) ▸ key
theorem b_store {h0 : Heap} {P : Addr} {file : Str} {text : Nat} {own : List (Addr × Obj)} {x : Str} {v : Value} {es : Array DictEntry} {n n' : Nat} {es' : Int → Tok → Array DictEntry} {ps : Array Value} {Q : Unit → Shared → Prop} (B : BodyAt h0 nsA cc P file text own es n ps s.heap) (hk : csc.kind = .class) (hx : csc.names.lookup x = some .local ∨ (csc.names.lookup x = none ∧ compilersOwnNames.contains x = true))
    (hr : aRefKeyMayBeTheName x es = false) (hp : ∀ hs tk, Obj.putName x hs (.str x tk) v (dObj es n) = dObj (es' hs tk) n')
    (hQ : ∀ hs tk h' t', BodyAt h0 nsA cc P file text own (es' hs tk) n' ps h' → Q () { s with heap := h', toks := t' }) :
    wpAny (model prog w) A (storeName (cEnv csc nsA cc fr cell) x v) Q E s := by
  refine cstore hk hx B.ns hr (fun hs tk h' sb hn => ?_) (fun hs tk => by rw [hp]; rfl)
  rw [hp] at hn
  obtain ⟨⟨o, nm, ql, fl, fr, flags, t1, t2, t3, t4, u, ho, e1, hfl⟩, hT, hne⟩ := B.code
  exact hQ hs tk h' _ ⟨fun b o b1 b2 e => sb.extBut b o b2 (B.keep b o b1 b2 e), fun p hp => let ⟨a1, a2, a3⟩ := B.own p hp; ⟨a1, a2, sb.extBut _ _ a2 a3⟩, hn, ⟨⟨o, nm, ql, fl, fr, flags, t1, t2, t3, t4, u, sb.extBut _ _ B.ne.1 ho, e1, hfl⟩, sb.extBut _ _ B.ne.2 hT, hne⟩, B.ne⟩
theorem b_fdef0 {h0 : Heap} {P bm : Addr} {ob oG : Obj} {mg : Str → Option Value} {file : Str} {text : Nat} {own : List (Addr × Obj)} {es : Array DictEntry} {n n' : Nat} {es' : Int → Tok → Addr → Array DictEntry} {ps : Array Value} {Q : Flow → Shared → Prop} {name : Str} {p : Arguments} {scope : Scope} {body : List Stmt} {pos : Pos} {l : List Str × List Str}
    (B : BodyAt h0 nsA cc P file text own es n ps s.heap) (hexec : PlainDefTree name p body scope pos) (hk : csc.kind = .class) (hx : csc.names.lookup name = some .local)
    (hcl : closureFor scope (cEnv csc nsA cc fr cell) = pure []) (hdoc : docOf body = none) (hG : ∀ h : Heap, h.get? mainGlobals = some oG → h.get? bm = some ob → GlobB h mg bm ob) (hoG : (mainGlobals, oG) ∈ own) (hob : (bm, ob) ∈ own)
    (hnf : codeAmong pos ps.toList = none) (hsn : ∀ c', codeAmong pos (ps ++ #[rawInt pos.line, rawInt pos.col, .ref c']).toList = some (.ref c')) (hl : localNames p scope (.stmts body) = some l)
    (hr : aRefKeyMayBeTheName name es = false) (hp : ∀ hs tk f, Obj.putName name hs (.str name tk) (.ref f) (dObj es n) = dObj (es' hs tk f) n')
    (hQ : ∀ f  c' P' o' hs tk h' t', f ∉ own.map (·.1) → c' ∉ own.map (·.1) → h0.get? f = none → h0.get? c' = none →
      IsFn name (qualnameIn (cEnv csc nsA cc fr cell) name name) file pos.line (p.posonlyargs.length + p.args.length) p.posonlyargs.length p.kwonlyargs.length (functionFlags p.vararg.isSome p.kwarg.isSome scope { file, future := 0, inFunction := true, text }) text true P' o' →
      BodyAt h0 nsA cc P file text ((f, fnObj name (qualnameIn (cEnv csc nsA cc fr cell) name name) p body scope [] .none c' ((mg (Str.ofString "__name__")).getD .none)) :: (c', o') :: (P', tableObj #[]) :: own) (es' hs tk f) n' (ps ++ #[rawInt pos.line, rawInt pos.col, .ref c']) h' → Q .next { s with heap := h', toks := t' }) :
    wpAny (model prog w) A (exec (.FunctionDef name p body [] none [] scope none name pos) (cEnv csc nsA cc fr cell)) Q E s := by
  rw [hexec]
  have G := hG s.heap (B.own _ hoG).2.2 (B.own _ hob).2.2
  refine wpAny_bind (wpAny_standAt (wpAny_bind (wpAny_holding (mkFn0 hcl hdoc rfl G (B.own _ hoG).1 (B.own _ hob).1 rfl B.code hnf hsn hl fun f  c' P' o' h1 tk1 k1 kf k2 k3 k4 k5 k6 k7 k8 => ?_))))
  have ln : nsA < s.heap.objs.size := Heap.lt_size B.ns
  have lP : P < s.heap.objs.size := Heap.lt_size B.code.tab
  have gt : ∀ {a : Addr}, s.heap.objs.size ≤ a → a ≠ P ∧ a ≠ nsA := fun h => ⟨Nat.ne_of_gt (Nat.lt_of_lt_of_le lP h), Nat.ne_of_gt (Nat.lt_of_lt_of_le ln h)⟩
  have B1 : BodyAt h0 nsA cc P file text ((f, fnObj name (qualnameIn (cEnv csc nsA cc fr cell) name name) p body scope [] .none c' ((mg (Str.ofString "__name__")).getD .none)) :: (c', o') :: (P', tableObj #[]) :: own) es n (ps ++ #[rawInt pos.line, rawInt pos.col, .ref c']) h1 :=
    ⟨fun b o b1 b2 e => k1 b o b1 (B.keep b o b1 b2 e), fun q hq => by
      rcases List.mem_cons.mp hq with rfl | hq
      · exact ⟨(gt kf).1, (gt kf).2, k8⟩
      · rcases List.mem_cons.mp hq with rfl | hq
        · exact ⟨(gt k2).1, (gt k2).2, k4⟩
        · rcases List.mem_cons.mp hq with rfl | hq
          · exact ⟨(gt k3).1, (gt k3).2, k6⟩
          · exact let ⟨a1, a2, a3⟩ := B.own q hq; ⟨a1, a2, k1 _ _ a1 a3⟩, k1 _ _ (Ne.symm B.ne.2) B.ns, k7, B.ne⟩
  have nw : ∀ {a : Addr}, s.heap.objs.size ≤ a → a ∉ own.map (·.1) := fun h hm => by
    obtain ⟨q, hq, e⟩ := List.mem_map.mp hm
    have := Heap.lt_size (B.own q hq).2.2
    rw [e] at this; exact absurd h (Nat.not_le.mpr this)
  have n0 : ∀ {a : Addr}, s.heap.objs.size ≤ a → h0.get? a = none := fun {a} h => by
    cases q : h0.get? a with
    | none => rfl
    | some o => exact absurd (Heap.lt_size (B.keep a o (gt h).1 (gt h).2 q)) (Nat.not_lt.mpr h)
  refine wpAny_bind (wpAny_standAt (wpAny_bind (wpAny_bindName (b_store (s := { s with heap := h1, toks := tk1 }) B1 hk (.inl hx) hr (fun hs tk => hp hs tk f) fun hs tk h' t' B' => wpAny_pure ?_))))
  exact hQ f  c' P' o' hs tk h' t' (nw kf) (nw k2) (n0 kf) (n0 k2) k5 B'
theorem b_fdef1 {h0 : Heap} {P bm : Addr} {ob oG : Obj} {mg : Str → Option Value} {file : Str} {text : Nat} {own : List (Addr × Obj)} {es : Array DictEntry} {n n' : Nat} {es' : Int → Tok → Addr → Array DictEntry} {ps : Array Value} {Q : Flow → Shared → Prop} {name : Str} {p : Arguments} {scope : Scope} {body : List Stmt} {pos : Pos} {l : List Str × List Str} {cell' : Addr}
    (B : BodyAt h0 nsA cc P file text own es n ps s.heap) (hexec : PlainDefTree name p body scope pos) (hk : csc.kind = .class) (hx : csc.names.lookup name = some .local)
    (hcl : closureFor scope (cEnv csc nsA cc fr cell) = pure [(Str.ofString "mycmp", cell')]) (hdoc : docOf body = none) (hG : ∀ h : Heap, h.get? mainGlobals = some oG → h.get? bm = some ob → GlobB h mg bm ob) (hoG : (mainGlobals, oG) ∈ own) (hob : (bm, ob) ∈ own)
    (hnf : codeAmong pos ps.toList = none) (hsn : ∀ c', codeAmong pos (ps ++ #[rawInt pos.line, rawInt pos.col, .ref c']).toList = some (.ref c')) (hl : localNames p scope (.stmts body) = some l)
    (hr : aRefKeyMayBeTheName name es = false) (hp : ∀ hs tk f, Obj.putName name hs (.str name tk) (.ref f) (dObj es n) = dObj (es' hs tk f) n')
    (hQ : ∀ f ct c' P' o' hs tk h' t', f ∉ own.map (·.1) → c' ∉ own.map (·.1) → h0.get? f = none → h0.get? c' = none →
      IsFn name (qualnameIn (cEnv csc nsA cc fr cell) name name) file pos.line (p.posonlyargs.length + p.args.length) p.posonlyargs.length p.kwonlyargs.length (functionFlags p.vararg.isSome p.kwarg.isSome scope { file, future := 0, inFunction := true, text }) text true P' o' →
      BodyAt h0 nsA cc P file text ((f, fnObj name (qualnameIn (cEnv csc nsA cc fr cell) name name) p body scope [(Str.ofString "mycmp", cell')] (.ref ct) c' ((mg (Str.ofString "__name__")).getD .none)) :: (c', o') :: (P', tableObj #[]) :: own) (es' hs tk f) n' (ps ++ #[rawInt pos.line, rawInt pos.col, .ref c']) h' → Q .next { s with heap := h', toks := t' }) :
    wpAny (model prog w) A (exec (.FunctionDef name p body [] none [] scope none name pos) (cEnv csc nsA cc fr cell)) Q E s := by
  rw [hexec]
  have G := hG s.heap (B.own _ hoG).2.2 (B.own _ hob).2.2
  refine wpAny_bind (wpAny_standAt (wpAny_bind (wpAny_holding (mkFn1 hcl hdoc rfl G (B.own _ hoG).1 (B.own _ hob).1 rfl B.code hnf hsn hl fun f ct c' P' o' h1 tk1 k1 kf k2 k3 k4 k5 k6 k7 k8 => ?_))))
  have ln : nsA < s.heap.objs.size := Heap.lt_size B.ns
  have lP : P < s.heap.objs.size := Heap.lt_size B.code.tab
  have gt : ∀ {a : Addr}, s.heap.objs.size ≤ a → a ≠ P ∧ a ≠ nsA := fun h => ⟨Nat.ne_of_gt (Nat.lt_of_lt_of_le lP h), Nat.ne_of_gt (Nat.lt_of_lt_of_le ln h)⟩
  have B1 : BodyAt h0 nsA cc P file text ((f, fnObj name (qualnameIn (cEnv csc nsA cc fr cell) name name) p body scope [(Str.ofString "mycmp", cell')] (.ref ct) c' ((mg (Str.ofString "__name__")).getD .none)) :: (c', o') :: (P', tableObj #[]) :: own) es n (ps ++ #[rawInt pos.line, rawInt pos.col, .ref c']) h1 :=
    ⟨fun b o b1 b2 e => k1 b o b1 (B.keep b o b1 b2 e), fun q hq => by
      rcases List.mem_cons.mp hq with rfl | hq
      · exact ⟨(gt kf).1, (gt kf).2, k8⟩
      · rcases List.mem_cons.mp hq with rfl | hq
        · exact ⟨(gt k2).1, (gt k2).2, k4⟩
        · rcases List.mem_cons.mp hq with rfl | hq
          · exact ⟨(gt k3).1, (gt k3).2, k6⟩
          · exact let ⟨a1, a2, a3⟩ := B.own q hq; ⟨a1, a2, k1 _ _ a1 a3⟩, k1 _ _ (Ne.symm B.ne.2) B.ns, k7, B.ne⟩
  have nw : ∀ {a : Addr}, s.heap.objs.size ≤ a → a ∉ own.map (·.1) := fun h hm => by
    obtain ⟨q, hq, e⟩ := List.mem_map.mp hm
    have := Heap.lt_size (B.own q hq).2.2
    rw [e] at this; exact absurd h (Nat.not_le.mpr this)
  have n0 : ∀ {a : Addr}, s.heap.objs.size ≤ a → h0.get? a = none := fun {a} h => by
    cases q : h0.get? a with
    | none => rfl
    | some o => exact absurd (Heap.lt_size (B.keep a o (gt h).1 (gt h).2 q)) (Nat.not_lt.mpr h)
  refine wpAny_bind (wpAny_standAt (wpAny_bind (wpAny_bindName (b_store (s := { s with heap := h1, toks := tk1 }) B1 hk (.inl hx) hr (fun hs tk => hp hs tk f) fun hs tk h' t' B' => wpAny_pure ?_))))
  exact hQ f ct c' P' o' hs tk h' t' (nw kf) (nw k2) (n0 kf) (n0 k2) k5 B'
end
end Mine

end
section
open PySem PySem.W PySem.Calls PyProof.Rows
set_option Elab.async false
set_option linter.unusedVariables false
namespace Mine
open PySem.W.X (tableObj)
/-- the names of the class K's body -/
noncomputable def kScope : Scope := { kind := .class, names := (["__module__", "__slots__", "__init__", "__lt__", "__gt__", "__eq__", "__le__", "__ge__", "__hash__"].map fun x => (Str.ofString x, NameKind.local)) ++ [(Str.ofString "mycmp", .free)], isGenerator := false, isCoroutine := false }
/-- the class K's body, read off the program -/
noncomputable def kBody : List Stmt := (PySem.Challenge.rw_om0053_01.prog.main.body.findSome? fun st => match st with | .FunctionDef _ _ (.ClassDef _ _ _ b _ _ _ _ _ _ _ :: _) _ _ _ _ _ _ _ => some b | _ => none).getD []
theorem BodyAt.push {h0 : Heap} {nsA cc P : Addr} {file : Str} {text : Nat} {own : List (Addr × Obj)} {es : Array DictEntry} {n : Nat} {ps : Array Value} {h : Heap} (B : BodyAt h0 nsA cc P file text own es n ps h) {o : Obj} (hf : o.isFreed = false) :
    BodyAt h0 nsA cc P file text ((h.objs.size, o) :: own) es n ps (h.push o) := by
  obtain ⟨⟨oc, nm, ql, fl, fr, flags, t1, t2, t3, t4, u, ho, e1, hfl⟩, hT, hne⟩ := B.code
  refine ⟨fun b o b1 b2 e => Heap.get?_push_of_some _ (B.keep b o b1 b2 e), fun p hp => ?_, Heap.get?_push_of_some _ B.ns, ⟨⟨oc, nm, ql, fl, fr, flags, t1, t2, t3, t4, u, Heap.get?_push_of_some _ ho, e1, hfl⟩, Heap.get?_push_of_some _ hT, hne⟩, B.ne⟩
  rcases List.mem_cons.mp hp with rfl | hp
  · exact ⟨Nat.ne_of_gt (Heap.lt_size hT), Nat.ne_of_gt (Heap.lt_size B.ns), Heap.get?_push_size _ hf⟩
  · exact let ⟨a, b, c⟩ := B.own p hp; ⟨a, b, Heap.get?_push_of_some _ c⟩
noncomputable def kEs (a1 a2 a3 a4 a5 a6 a7 a8 a9 a10 a11 : Int) (b1 b2 b3 b4 b5 b6 b7 b8 b9 b10 b11 : Tok) (v1 v2 v3 : Value) (sl f1 f2 f3 f4 f5 f6 : Addr) : Array DictEntry := #[⟨a1, .str (Str.ofString "__module__") b1, v1⟩, ⟨a2, .str (Str.ofString "__qualname__") b2, v2⟩, ⟨a3, .str (Str.ofString "__firstlineno__") b3, v3⟩, ⟨a4, .str (Str.ofString "__slots__") b4, .ref sl⟩, ⟨a5, .str (Str.ofString "__init__") b5, .ref f1⟩, ⟨a6, .str (Str.ofString "__lt__") b6, .ref f2⟩, ⟨a7, .str (Str.ofString "__gt__") b7, .ref f3⟩, ⟨a8, .str (Str.ofString "__eq__") b8, .ref f4⟩, ⟨a9, .str (Str.ofString "__le__") b9, .ref f5⟩, ⟨a10, .str (Str.ofString "__ge__") b10, .ref f6⟩, ⟨a11, .str (Str.ofString "__hash__") b11, .none⟩]
/-- a def of the class's body -/
noncomputable def kFn (i : Nat) : Str × Arguments × List Stmt × Scope × Pos := match kBody[i]? with | some (.FunctionDef nm p b _ _ _ sc _ _ pos) => (nm, p, b, sc, pos) | _ => default
noncomputable def kFnO (i : Nat) (cl : List (Str × Addr)) (ct : Value) (c : Addr) (pm : Value) : Obj := fnObj (kFn i).1 (Str.ofString "cmp_to_key.<locals>.K" ++ Str.ofString "." ++ (kFn i).1) (kFn i).2.1 (kFn i).2.2.1 (kFn i).2.2.2.1 cl ct c pm
noncomputable def kFnC (i : Nat) (file : Str) (text : Nat) (P : Addr) (o : Obj) : Prop :=
  IsFn (kFn i).1 (Str.ofString "cmp_to_key.<locals>.K" ++ Str.ofString "." ++ (kFn i).1) file (kFn i).2.2.2.2.line 2 0 0 (functionFlags false false (kFn i).2.2.2.1 { file, future := 0, inFunction := true, text }) text true P o
section
variable {prog : Program} {w : World} {A : Around} {E : Value → Shared → Prop} {s : Shared} {nsA cc fr cell : Addr}
set_option maxHeartbeats 2000000 in
theorem kbody_run {h0 : Heap} {P bm : Addr} {ob oG : Obj} {mg : Str → Option Value} {file : Str} {text : Nat} {own : List (Addr × Obj)} {Q : Flow → Shared → Prop} {a1 a2 a3 : Int} {b1 b2 b3 : Tok} {v1 v2 v3 : Value}
    (B : BodyAt h0 nsA cc P file text own #[⟨a1, .str (Str.ofString "__module__") b1, v1⟩, ⟨a2, .str (Str.ofString "__qualname__") b2, v2⟩, ⟨a3, .str (Str.ofString "__firstlineno__") b3, v3⟩] 3 #[] s.heap)
    (hG : ∀ h : Heap, h.get? mainGlobals = some oG → h.get? bm = some ob → GlobB h mg bm ob) (hoG : (mainGlobals, oG) ∈ own) (hob : (bm, ob) ∈ own)
    (hQ : ∀ sl f1 f2 f3 f4 f5 f6 ct2 ct3 ct4 ct5 ct6 c1 c2 c3 c4 c5 c6 P1 P2 o1 o2 a4 a5 a6 a7 a8 a9 a10 a11 b4 b5 b6 b7 b8 b9 b10 b11 tm ts h' t', (∀ b o, b ≠ P → b ≠ nsA → h0.get? b = some o → h'.get? b = some o) → (∀ p ∈ own, h'.get? p.1 = some p.2) →
      h'.get? nsA = some (dObj (kEs a1 a2 a3 a4 a5 a6 a7 a8 a9 a10 a11 b1 b2 b3 b4 b5 b6 b7 b8 b9 b10 b11 (.str (Str.ofString "cpy313.functools") tm) v2 v3 sl f1 f2 f3 f4 f5 f6) 11) →
      h'.get? sl = some { cls := .type "list", data := .seq #[.str (Str.ofString "obj") ts] } →
      h'.get? f1 = some (kFnO 2 [] .none c1 ((mg (Str.ofString "__name__")).getD .none)) → h'.get? c1 = some o1 → kFnC 2 file text P1 o1 →
      h'.get? f2 = some (kFnO 3 [(Str.ofString "mycmp", cell)] (.ref ct2) c2 ((mg (Str.ofString "__name__")).getD .none)) → h'.get? c2 = some o2 → kFnC 3 file text P2 o2 →
      h'.get? f3 = some (kFnO 4 [(Str.ofString "mycmp", cell)] (.ref ct3) c3 ((mg (Str.ofString "__name__")).getD .none)) → h'.get? f4 = some (kFnO 5 [(Str.ofString "mycmp", cell)] (.ref ct4) c4 ((mg (Str.ofString "__name__")).getD .none)) →
      h'.get? f5 = some (kFnO 6 [(Str.ofString "mycmp", cell)] (.ref ct5) c5 ((mg (Str.ofString "__name__")).getD .none)) → h'.get? f6 = some (kFnO 7 [(Str.ofString "mycmp", cell)] (.ref ct6) c6 ((mg (Str.ofString "__name__")).getD .none)) →
      Q .next { s with heap := h', toks := t' }) :
    wpAny (model prog w) A (execs kBody (cEnv kScope nsA cc fr cell)) Q E s := by
  conv in kBody => whnf
  refine wpAny_execs_cons (wpAny_Assign_Name (wpAny_Constant_str (b_store (n' := 3) (es' := fun hs tk => #[⟨a1, .str (Str.ofString "__module__") b1, .str (Str.ofString "cpy313.functools") s.toks⟩, ⟨a2, .str (Str.ofString "__qualname__") b2, v2⟩, ⟨a3, .str (Str.ofString "__firstlineno__") b3, v3⟩]) B rfl (.inl rfl) (by kernel_rfl) (fun hs tk => by kernel_rfl) fun _ _ h1 t1 B1 => ?_)))
  generalize hvm : Value.str (Str.ofString "cpy313.functools") s.toks = vm at B1
  clear B
  refine wpAny_execs_cons (wpAny_Assign_Name (List_ (spliced_more (wpAny_Constant_str (spliced_none (wpAny_newList ?_))))))
  have B2 := B1.push (o := { cls := .type "list", data := .seq #[.str (Str.ofString "obj") t1] }) rfl
  generalize hsl : h1.objs.size = sl at B2 ⊢
  clear B1
  refine b_store (n' := 4) (es' := fun hs tk => #[⟨a1, .str (Str.ofString "__module__") b1, vm⟩, ⟨a2, .str (Str.ofString "__qualname__") b2, v2⟩, ⟨a3, .str (Str.ofString "__firstlineno__") b3, v3⟩, ⟨hs, .str (Str.ofString "__slots__") tk, .ref sl⟩]) B2 rfl (.inl rfl) (by kernel_rfl) (fun hs tk => by kernel_rfl) fun a4 b4 h2 t2 B3 => ?_
  clear B2
  refine wpAny_execs_cons (b_fdef0 (n' := 5) (es' := fun hs tk f => #[⟨a1, .str (Str.ofString "__module__") b1, vm⟩, ⟨a2, .str (Str.ofString "__qualname__") b2, v2⟩, ⟨a3, .str (Str.ofString "__firstlineno__") b3, v3⟩, ⟨a4, .str (Str.ofString "__slots__") b4, .ref sl⟩, ⟨hs, .str (Str.ofString "__init__") tk, .ref f⟩]) B3 (fun _ => rfl) rfl rfl rfl rfl hG (.tail _ (hoG)) (.tail _ (hob)) (by kernel_rfl) (fun _ => by kernel_rfl) rfl (by kernel_rfl) (fun hs tk f => by kernel_rfl) fun f1 c1 P1 o1 a5 b5 g1 u1 nf1 nc1 zf1 zc1 i1 B4 => ?_)
  clear B3
  refine wpAny_execs_cons (b_fdef1 (cell' := cell) (n' := 6) (es' := fun hs tk f => #[⟨a1, .str (Str.ofString "__module__") b1, vm⟩, ⟨a2, .str (Str.ofString "__qualname__") b2, v2⟩, ⟨a3, .str (Str.ofString "__firstlineno__") b3, v3⟩, ⟨a4, .str (Str.ofString "__slots__") b4, .ref sl⟩, ⟨a5, .str (Str.ofString "__init__") b5, .ref f1⟩, ⟨hs, .str (Str.ofString "__lt__") tk, .ref f⟩]) B4 (fun _ => rfl) rfl rfl (by kernel_rfl) rfl hG (.tail _ (.tail _ (.tail _ (.tail _ (hoG))))) (.tail _ (.tail _ (.tail _ (.tail _ (hob))))) (by kernel_rfl) (fun _ => by kernel_rfl) rfl (by kernel_rfl) (fun hs tk f => by kernel_rfl) fun f2 ct1 c2 P2 o2 a6 b6 g2 u2 nf2 nc2 zf2 zc2 i2 B5 => ?_)
  clear B4
  refine wpAny_execs_cons (b_fdef1 (cell' := cell) (n' := 7) (es' := fun hs tk f => #[⟨a1, .str (Str.ofString "__module__") b1, vm⟩, ⟨a2, .str (Str.ofString "__qualname__") b2, v2⟩, ⟨a3, .str (Str.ofString "__firstlineno__") b3, v3⟩, ⟨a4, .str (Str.ofString "__slots__") b4, .ref sl⟩, ⟨a5, .str (Str.ofString "__init__") b5, .ref f1⟩, ⟨a6, .str (Str.ofString "__lt__") b6, .ref f2⟩, ⟨hs, .str (Str.ofString "__gt__") tk, .ref f⟩]) B5 (fun _ => rfl) rfl rfl (by kernel_rfl) rfl hG (.tail _ (.tail _ (.tail _ (.tail _ (.tail _ (.tail _ (.tail _ (hoG)))))))) (.tail _ (.tail _ (.tail _ (.tail _ (.tail _ (.tail _ (.tail _ (hob)))))))) (by kernel_rfl) (fun _ => by kernel_rfl) rfl (by kernel_rfl) (fun hs tk f => by kernel_rfl) fun f3 ct2 c3 P3 o3 a7 b7 g3 u3 nf3 nc3 zf3 zc3 i3 B6 => ?_)
  clear B5
  refine wpAny_execs_cons (b_fdef1 (cell' := cell) (n' := 8) (es' := fun hs tk f => #[⟨a1, .str (Str.ofString "__module__") b1, vm⟩, ⟨a2, .str (Str.ofString "__qualname__") b2, v2⟩, ⟨a3, .str (Str.ofString "__firstlineno__") b3, v3⟩, ⟨a4, .str (Str.ofString "__slots__") b4, .ref sl⟩, ⟨a5, .str (Str.ofString "__init__") b5, .ref f1⟩, ⟨a6, .str (Str.ofString "__lt__") b6, .ref f2⟩, ⟨a7, .str (Str.ofString "__gt__") b7, .ref f3⟩, ⟨hs, .str (Str.ofString "__eq__") tk, .ref f⟩]) B6 (fun _ => rfl) rfl rfl (by kernel_rfl) rfl hG (.tail _ (.tail _ (.tail _ (.tail _ (.tail _ (.tail _ (.tail _ (.tail _ (.tail _ (.tail _ (hoG))))))))))) (.tail _ (.tail _ (.tail _ (.tail _ (.tail _ (.tail _ (.tail _ (.tail _ (.tail _ (.tail _ (hob))))))))))) (by kernel_rfl) (fun _ => by kernel_rfl) rfl (by kernel_rfl) (fun hs tk f => by kernel_rfl) fun f4 ct3 c4 P4 o4 a8 b8 g4 u4 nf4 nc4 zf4 zc4 i4 B7 => ?_)
  clear B6
  refine wpAny_execs_cons (b_fdef1 (cell' := cell) (n' := 9) (es' := fun hs tk f => #[⟨a1, .str (Str.ofString "__module__") b1, vm⟩, ⟨a2, .str (Str.ofString "__qualname__") b2, v2⟩, ⟨a3, .str (Str.ofString "__firstlineno__") b3, v3⟩, ⟨a4, .str (Str.ofString "__slots__") b4, .ref sl⟩, ⟨a5, .str (Str.ofString "__init__") b5, .ref f1⟩, ⟨a6, .str (Str.ofString "__lt__") b6, .ref f2⟩, ⟨a7, .str (Str.ofString "__gt__") b7, .ref f3⟩, ⟨a8, .str (Str.ofString "__eq__") b8, .ref f4⟩, ⟨hs, .str (Str.ofString "__le__") tk, .ref f⟩]) B7 (fun _ => rfl) rfl rfl (by kernel_rfl) rfl hG (.tail _ (.tail _ (.tail _ (.tail _ (.tail _ (.tail _ (.tail _ (.tail _ (.tail _ (.tail _ (.tail _ (.tail _ (.tail _ (hoG)))))))))))))) (.tail _ (.tail _ (.tail _ (.tail _ (.tail _ (.tail _ (.tail _ (.tail _ (.tail _ (.tail _ (.tail _ (.tail _ (.tail _ (hob)))))))))))))) (by kernel_rfl) (fun _ => by kernel_rfl) rfl (by kernel_rfl) (fun hs tk f => by kernel_rfl) fun f5 ct4 c5 P5 o5 a9 b9 g5 u5 nf5 nc5 zf5 zc5 i5 B8 => ?_)
  clear B7
  refine wpAny_execs_cons (b_fdef1 (cell' := cell) (n' := 10) (es' := fun hs tk f => #[⟨a1, .str (Str.ofString "__module__") b1, vm⟩, ⟨a2, .str (Str.ofString "__qualname__") b2, v2⟩, ⟨a3, .str (Str.ofString "__firstlineno__") b3, v3⟩, ⟨a4, .str (Str.ofString "__slots__") b4, .ref sl⟩, ⟨a5, .str (Str.ofString "__init__") b5, .ref f1⟩, ⟨a6, .str (Str.ofString "__lt__") b6, .ref f2⟩, ⟨a7, .str (Str.ofString "__gt__") b7, .ref f3⟩, ⟨a8, .str (Str.ofString "__eq__") b8, .ref f4⟩, ⟨a9, .str (Str.ofString "__le__") b9, .ref f5⟩, ⟨hs, .str (Str.ofString "__ge__") tk, .ref f⟩]) B8 (fun _ => rfl) rfl rfl (by kernel_rfl) rfl hG (.tail _ (.tail _ (.tail _ (.tail _ (.tail _ (.tail _ (.tail _ (.tail _ (.tail _ (.tail _ (.tail _ (.tail _ (.tail _ (.tail _ (.tail _ (.tail _ (hoG))))))))))))))))) (.tail _ (.tail _ (.tail _ (.tail _ (.tail _ (.tail _ (.tail _ (.tail _ (.tail _ (.tail _ (.tail _ (.tail _ (.tail _ (.tail _ (.tail _ (.tail _ (hob))))))))))))))))) (by kernel_rfl) (fun _ => by kernel_rfl) rfl (by kernel_rfl) (fun hs tk f => by kernel_rfl) fun f6 ct5 c6 P6 o6 a10 b10 g6 u6 nf6 nc6 zf6 zc6 i6 B9 => ?_)
  clear B8
  refine wpAny_execs_cons (wpAny_Assign_Name (wpAny_Constant_none (b_store (n' := 11) (es' := fun hs tk => #[⟨a1, .str (Str.ofString "__module__") b1, vm⟩, ⟨a2, .str (Str.ofString "__qualname__") b2, v2⟩, ⟨a3, .str (Str.ofString "__firstlineno__") b3, v3⟩, ⟨a4, .str (Str.ofString "__slots__") b4, .ref sl⟩, ⟨a5, .str (Str.ofString "__init__") b5, .ref f1⟩, ⟨a6, .str (Str.ofString "__lt__") b6, .ref f2⟩, ⟨a7, .str (Str.ofString "__gt__") b7, .ref f3⟩, ⟨a8, .str (Str.ofString "__eq__") b8, .ref f4⟩, ⟨a9, .str (Str.ofString "__le__") b9, .ref f5⟩, ⟨a10, .str (Str.ofString "__ge__") b10, .ref f6⟩, ⟨hs, .str (Str.ofString "__hash__") tk, .none⟩]) B9 rfl (.inl rfl) (by kernel_rfl) (fun hs tk => by kernel_rfl) fun a11 b11 h9 t9 B10 => ?_)))
  refine wpAny_execs_nil ?_
  subst hvm
  have M := B10.own
  exact hQ sl f1 f2 f3 f4 f5 f6 ct1 ct2 ct3 ct4 ct5 c1 c2 c3 c4 c5 c6 P1 P2 o1 o2 a4 a5 a6 a7 a8 a9 a10 a11 b4 b5 b6 b7 b8 b9 b10 b11 _ _ h9 t9 B10.keep (fun p hp => (M p (.tail _ (.tail _ (.tail _ (.tail _ (.tail _ (.tail _ (.tail _ (.tail _ (.tail _ (.tail _ (.tail _ (.tail _ (.tail _ (.tail _ (.tail _ (.tail _ (.tail _ (.tail _ (.tail _ (hp))))))))))))))))))))).2.2) B10.ns (M _ (.tail _ (.tail _ (.tail _ (.tail _ (.tail _ (.tail _ (.tail _ (.tail _ (.tail _ (.tail _ (.tail _ (.tail _ (.tail _ (.tail _ (.tail _ (.tail _ (.tail _ (.tail _ (.head _)))))))))))))))))))).2.2
    (M _ (.tail _ (.tail _ (.tail _ (.tail _ (.tail _ (.tail _ (.tail _ (.tail _ (.tail _ (.tail _ (.tail _ (.tail _ (.tail _ (.tail _ (.tail _ (.head _))))))))))))))))).2.2 (M _ (.tail _ (.tail _ (.tail _ (.tail _ (.tail _ (.tail _ (.tail _ (.tail _ (.tail _ (.tail _ (.tail _ (.tail _ (.tail _ (.tail _ (.tail _ (.tail _ (.head _)))))))))))))))))).2.2 i1 (M _ (.tail _ (.tail _ (.tail _ (.tail _ (.tail _ (.tail _ (.tail _ (.tail _ (.tail _ (.tail _ (.tail _ (.tail _ (.head _)))))))))))))).2.2 (M _ (.tail _ (.tail _ (.tail _ (.tail _ (.tail _ (.tail _ (.tail _ (.tail _ (.tail _ (.tail _ (.tail _ (.tail _ (.tail _ (.head _))))))))))))))).2.2 i2
    (M _ (.tail _ (.tail _ (.tail _ (.tail _ (.tail _ (.tail _ (.tail _ (.tail _ (.tail _ (.head _))))))))))).2.2 (M _ (.tail _ (.tail _ (.tail _ (.tail _ (.tail _ (.tail _ (.head _)))))))).2.2 (M _ (.tail _ (.tail _ (.tail _ (.head _))))).2.2 (M _ (.head _)).2.2
end
end Mine

end
section
open PySem PySem.W PySem.Calls PyProof.Rows
set_option Elab.async false
set_option linter.unusedVariables false
namespace Mine
open PySem.W.X
theorem f_can : ((Manifest.find? "type").bind (·.mro.findSome? fun t => (Manifest.find? t).bind fun b => if b.noNew then some true else if b.attrs.any (·.1 == "__new__") then some false else none)).getD false = false := by kernel_rfl
theorem f_made : Bind.madeBy (.type "type") = pure (some "type.__new__") := by kernel_rfl
theorem f_mro : mroOf (.type "type") = pure [.type "type", .type "object"] := by kernel_rfl
theorem f_sub : isSubtype (.type "type") (.type "type") = pure true := by kernel_rfl
theorem f_init : typeLookup (.type "type") (Str.ofString "__init__") = pure (some (.builtin "type.__init__")) := by kernel_rfl
theorem f_bindi (v : Value) : bindSpecial (.builtin "type.__init__") v = pure (.builtin "type.__init__", [v]) := by kernel_rfl
theorem f_plain : plainId "type.__new__" = true := by decide +kernel
theorem f_plaini : plainId "type.__init__" = true := by decide +kernel
theorem f_entry : entryFor table "type.__new__" = some Builtin.«type.__new__» := entryFor_of_tree (by kernel_rfl)
theorem f_entryi : entryFor table "type.__init__" = some Builtin.«type.__init__» := entryFor_of_tree (by kernel_rfl)
theorem f_ct (a b c : Value) : checkTypeCall "type" ⟨[a, b, c], []⟩ = pure () := by kernel_rfl
theorem f_cn (b c d : Value) : checkBuiltinCall "type.__new__" ⟨[.type "type", b, c, d], []⟩ = pure () := by kernel_rfl
theorem f_slot : Slot "type" (Str.ofString "__init__") "type.__init__" := Slot.of (owner := "type") (n := "__init__") f_init (by decide +kernel) (by decide +kernel) (by decide +kernel) (.inl (by kernel_rfl)) f_sub f_plaini
theorem f_argsi (a n b d : Value) : argsOk "type.__init__" ⟨[a, n, b, d], []⟩ := by unfold argsOk; kernel_rfl
section
variable {prog : Program} {w : World} {A : Around} {Q : Value → Shared → Prop} {E : Value → Shared → Prop} {s : Shared}
/-- type(name, bases, ns), by what type.__new__ gives -/
theorem type_call3 {n b d : Value} (h : wpAny (model prog w) A.in1.in1 (Builtin.«type.__new__» ⟨[.type "type", n, b, d], []⟩) (fun fin s' => ∃ a o, fin = .done (.ret (.ref a)) ∧ s'.heap.get? a = some o ∧ o.cls = .type "type" ∧ Q (.ref a) s') E s) :
    wpAny (model prog w) A (call (.type "type") [n, b, d]) Q E s := by
  refine wpAny_call (codeAny_of_tree ?_)
  show wpAny _ _ (callAny (.type "type") ⟨[n, b, d], []⟩) _ _ s
  simp only [callAny]
  refine wpAny_pure ⟨Code.quiet_builtin _ (by decide +kernel), codeAny_builtin entry_type_call ?_⟩
  rw [Around.under_plain (weight_type_call "type" _ _) (by first | rfl | kernel_rfl | decide +kernel)]
  unfold Builtin.«type.__call__»
  dsimp only
  with_reducible refine wpAny_ite_true (by decide) (wpAny_ite_false rfl (wpAny_ite_false rfl ?_))
  refine wpAny_ite_false (decide_eq_false (by rw [f_can]; exact Bool.false_ne_true)) ?_
  with_reducible refine wpAny_bind (wpAny_of_eq (f_ct _ _ _) (wpAny_bind (wpAny_of_eq f_mro ?_)))
  rw [if_neg (by decide)]
  with_reducible refine wpAny_bind (wpAny_of_eq f_made ?_)
  dsimp only
  with_reducible refine wpAny_bind (wpAny_pure (wpAny_bind (wpAny_holding (wpAny_call (codeAny_call_builtin f_plain f_entry (wpAny_of_eq (f_cn _ _ _) (wpAny_mono h (fun fin s' hf => ?_) fun _ _ x => x)))))))
  obtain ⟨a, o, rfl, ho, hc, hq⟩ := hf
  refine wpAny_bind (wpAny_isInstance (T := "type") ⟨_, ho, hc⟩ f_sub ?_)
  simp only [Bool.not_true, Bool.false_eq_true, if_false]
  refine wpAny_bind (wpAny_holding (wpAny_callSpecial?_slot (name := Str.ofString "__init__") (T := "type") ⟨_, ho, hc⟩ f_slot (wpAny_call_entry f_slot ⟨_, ho, hc⟩ f_entryi ?_ (f_argsi _ _ _ _))))
  show wpAny _ _ (pure _) _ _ _
  refine wpAny_pure ⟨_, rfl, ?_⟩
  show wpAny _ _ (if (Value.none != Value.none) = true then _ else _) _ _ _
  rw [if_neg (by decide)]
  exact wpAny_pure hq
end
end Mine

end
section
open PySem PySem.W PySem.Calls PyProof.Rows
set_option Elab.async false
set_option linter.unusedVariables false
namespace Mine
open PySem.W.X
/-- the class's namespace when its body has ended -/
noncomputable def kEs2 (a1 a2 a3 a4 a5 a6 a7 a8 a9 a10 a11 a12 : Int) (b1 b2 b3 b4 b5 b6 b7 b8 b9 b10 b11 b12 : Tok) (v1 v2 v3 : Value) (sl f1 f2 f3 f4 f5 f6 st : Addr) : Array DictEntry :=
  #[⟨a1, .str (Str.ofString "__module__") b1, v1⟩, ⟨a2, .str (Str.ofString "__qualname__") b2, v2⟩, ⟨a3, .str (Str.ofString "__firstlineno__") b3, v3⟩, ⟨a4, .str (Str.ofString "__slots__") b4, .ref sl⟩, ⟨a5, .str (Str.ofString "__init__") b5, .ref f1⟩, ⟨a6, .str (Str.ofString "__lt__") b6, .ref f2⟩, ⟨a7, .str (Str.ofString "__gt__") b7, .ref f3⟩, ⟨a8, .str (Str.ofString "__eq__") b8, .ref f4⟩, ⟨a9, .str (Str.ofString "__le__") b9, .ref f5⟩, ⟨a10, .str (Str.ofString "__ge__") b10, .ref f6⟩, ⟨a11, .str (Str.ofString "__hash__") b11, .none⟩, ⟨a12, .str (Str.ofString "__static_attributes__") b12, .ref st⟩]
noncomputable def kEs3 (a1 a3 a4 a5 a6 a7 a8 a9 a10 a11 a12 : Int) (b1 b3 b4 b5 b6 b7 b8 b9 b10 b11 b12 : Tok) (v1 v3 : Value) (sl f1 f2 f3 f4 f5 f6 st : Addr) : Array DictEntry :=
  #[⟨a1, .str (Str.ofString "__module__") b1, v1⟩, ⟨a3, .str (Str.ofString "__firstlineno__") b3, v3⟩, ⟨a4, .str (Str.ofString "__slots__") b4, .ref sl⟩, ⟨a5, .str (Str.ofString "__init__") b5, .ref f1⟩, ⟨a6, .str (Str.ofString "__lt__") b6, .ref f2⟩, ⟨a7, .str (Str.ofString "__gt__") b7, .ref f3⟩, ⟨a8, .str (Str.ofString "__eq__") b8, .ref f4⟩, ⟨a9, .str (Str.ofString "__le__") b9, .ref f5⟩, ⟨a10, .str (Str.ofString "__ge__") b10, .ref f6⟩, ⟨a11, .str (Str.ofString "__hash__") b11, .none⟩, ⟨a12, .str (Str.ofString "__static_attributes__") b12, .ref st⟩]
noncomputable def kEs5 (a1 a3 a4 a5 a6 a7 a8 a9 a10 a11 a12 a13 a14 : Int) (b1 b3 b4 b5 b6 b7 b8 b9 b10 b11 b12 b13 b14 : Tok) (v1 v3 : Value) (sl f1 f2 f3 f4 f5 f6 st : Addr) (d : Value) : Array DictEntry :=
  #[⟨a1, .str (Str.ofString "__module__") b1, v1⟩, ⟨a3, .str (Str.ofString "__firstlineno__") b3, v3⟩, ⟨a4, .str (Str.ofString "__slots__") b4, .ref sl⟩, ⟨a5, .str (Str.ofString "__init__") b5, .ref f1⟩, ⟨a6, .str (Str.ofString "__lt__") b6, .ref f2⟩, ⟨a7, .str (Str.ofString "__gt__") b7, .ref f3⟩, ⟨a8, .str (Str.ofString "__eq__") b8, .ref f4⟩, ⟨a9, .str (Str.ofString "__le__") b9, .ref f5⟩, ⟨a10, .str (Str.ofString "__ge__") b10, .ref f6⟩, ⟨a11, .str (Str.ofString "__hash__") b11, .none⟩, ⟨a12, .str (Str.ofString "__static_attributes__") b12, .ref st⟩, ⟨a13, .str (Str.ofString "obj") b13, d⟩, ⟨a14, .str (Str.ofString "__doc__") b14, .none⟩]
theorem ok_str : typeLookup (.type "str") (Str.ofString "__set_name__") = pure none := by kernel_rfl
theorem ok_int : typeLookup (.type "int") (Str.ofString "__set_name__") = pure none := by kernel_rfl
theorem ok_list : typeLookup (.type "list") (Str.ofString "__set_name__") = pure none := by kernel_rfl
theorem ok_tuple : typeLookup (.type "tuple") (Str.ofString "__set_name__") = pure none := by kernel_rfl
theorem ok_fun : typeLookup (.type "function") (Str.ofString "__set_name__") = pure none := by kernel_rfl
theorem ok_none : typeLookup (.type "NoneType") (Str.ofString "__set_name__") = pure none := by kernel_rfl
section
variable (a1 a2 a3 a4 a5 a6 a7 a8 a9 a10 a11 a12 : Int) (b1 b2 b3 b4 b5 b6 b7 b8 b9 b10 b11 b12 : Tok) (sl f1 f2 f3 f4 f5 f6 st : Addr) (tm t9 t10 : Tok)
theorem o3_eq (hs hs' : Int) (tk tk' : Tok) (v1 v3 d : Value) : o3 (kEs3 a1 a3 a4 a5 a6 a7 a8 a9 a10 a11 a12 b1 b3 b4 b5 b6 b7 b8 b9 b10 b11 b12 v1 v3 sl f1 f2 f3 f4 f5 f6 st) 1 hs tk d hs' tk' = dObj (kEs5 a1 a3 a4 a5 a6 a7 a8 a9 a10 a11 a12 hs hs' b1 b3 b4 b5 b6 b7 b8 b9 b10 b11 b12 tk tk' v1 v3 sl f1 f2 f3 f4 f5 f6 st d) 3 := by kernel_rfl
theorem nsF_ok {h0 : Heap} {eo1 eo2 eo3 eo4 eo5 eo6 eos eot : Obj}
    (h1 : h0.get? f1 = some eo1) (k1 : eo1.cls = .type "function") (h2 : h0.get? f2 = some eo2) (k2 : eo2.cls = .type "function") (h3 : h0.get? f3 = some eo3) (k3 : eo3.cls = .type "function")
    (h4 : h0.get? f4 = some eo4) (k4 : eo4.cls = .type "function") (h5 : h0.get? f5 = some eo5) (k5 : eo5.cls = .type "function") (h6 : h0.get? f6 = some eo6) (k6 : eo6.cls = .type "function")
    (hsl : h0.get? sl = some eos) (ks : eos.cls = .type "list") (ht : h0.get? st = some eot) (kt : eot.cls = .type "tuple") :
    NsF h0 (kEs2 a1 a2 a3 a4 a5 a6 a7 a8 a9 a10 a11 a12 b1 b2 b3 b4 b5 b6 b7 b8 b9 b10 b11 b12 (.str (Str.ofString "cpy313.functools") tm) (.str (Str.ofString "cmp_to_key.<locals>.K") t9) (.int 47 t10) sl f1 f2 f3 f4 f5 f6 st)
      (kEs3 a1 a3 a4 a5 a6 a7 a8 a9 a10 a11 a12 b1 b3 b4 b5 b6 b7 b8 b9 b10 b11 b12 (.str (Str.ofString "cpy313.functools") tm) (.int 47 t10) sl f1 f2 f3 f4 f5 f6 st) 1 sl t9 where
  hf := ⟨a4, .str (Str.ofString "__slots__") b4, by kernel_rfl⟩
  ho := by kernel_rfl
  hm := by kernel_rfl
  hsz := by show 12 ≤ 100; decide
  hdel := by kernel_rfl
  l1 := by kernel_rfl
  l2 := by kernel_rfl
  hh := by kernel_rfl
  hd1 := by kernel_rfl
  g1 := by kernel_rfl
  g2 := by kernel_rfl
  g3 := by kernel_rfl
  g4 := by kernel_rfl
  g5 := by kernel_rfl
  g6 := by kernel_rfl
  hz1 := by show 11 ≤ 100; decide
  hr1 := by kernel_rfl
  hf1 := fun hs tk v => by kernel_rfl
  l3 := fun hs tk v => by kernel_rfl
  hd2 := fun hs tk v => ⟨(kEs3 a1 a3 a4 a5 a6 a7 a8 a9 a10 a11 a12 b1 b3 b4 b5 b6 b7 b8 b9 b10 b11 b12 (.str (Str.ofString "cpy313.functools") tm) (.int 47 t10) sl f1 f2 f3 f4 f5 f6 st).push ⟨hs, .str (Str.ofString "obj") tk, v⟩, 2, by kernel_rfl, by kernel_rfl⟩
  hf2 := fun hs tk v hs' tk' => by rw [o3_eq]; rfl
  l4 := fun hs tk v hs' tk' => ⟨.ref f4, by rw [o3_eq]; kernel_rfl⟩
  l5 := fun hs tk v hs' tk' => ⟨.none, by rw [o3_eq]; kernel_rfl⟩
  hd3 := fun hs tk b hs' tk' => by
    rw [o3_eq]
    refine ⟨_, _, rfl, fun e he => ?_⟩
    simp only [kEs5, List.mem_cons, List.not_mem_nil, or_false] at he
    rcases he with rfl | rfl | rfl | rfl | rfl | rfl | rfl | rfl | rfl | rfl | rfl | rfl | rfl
    · exact ⟨⟨_, _, rfl⟩, by kernel_rfl, .inr ⟨"str", ok_str, .inl rfl⟩⟩
    · exact ⟨⟨_, _, rfl⟩, by kernel_rfl, .inr ⟨"int", ok_int, .inl rfl⟩⟩
    · exact ⟨⟨_, _, rfl⟩, by kernel_rfl, .inr ⟨"list", ok_list, .inr ⟨_, _, rfl, hsl, ks⟩⟩⟩
    · exact ⟨⟨_, _, rfl⟩, by kernel_rfl, .inr ⟨"function", ok_fun, .inr ⟨_, _, rfl, h1, k1⟩⟩⟩
    · exact ⟨⟨_, _, rfl⟩, by kernel_rfl, .inr ⟨"function", ok_fun, .inr ⟨_, _, rfl, h2, k2⟩⟩⟩
    · exact ⟨⟨_, _, rfl⟩, by kernel_rfl, .inr ⟨"function", ok_fun, .inr ⟨_, _, rfl, h3, k3⟩⟩⟩
    · exact ⟨⟨_, _, rfl⟩, by kernel_rfl, .inr ⟨"function", ok_fun, .inr ⟨_, _, rfl, h4, k4⟩⟩⟩
    · exact ⟨⟨_, _, rfl⟩, by kernel_rfl, .inr ⟨"function", ok_fun, .inr ⟨_, _, rfl, h5, k5⟩⟩⟩
    · exact ⟨⟨_, _, rfl⟩, by kernel_rfl, .inr ⟨"function", ok_fun, .inr ⟨_, _, rfl, h6, k6⟩⟩⟩
    · exact ⟨⟨_, _, rfl⟩, by kernel_rfl, .inr ⟨"NoneType", ok_none, .inl rfl⟩⟩
    · exact ⟨⟨_, _, rfl⟩, by kernel_rfl, .inr ⟨"tuple", ok_tuple, .inr ⟨_, _, rfl, ht, kt⟩⟩⟩
    · exact ⟨⟨_, _, rfl⟩, by kernel_rfl, .inl rfl⟩
    · exact ⟨⟨_, _, rfl⟩, by kernel_rfl, .inr ⟨"NoneType", ok_none, .inl rfl⟩⟩
end
end Mine

end
section
open PySem PySem.W PySem.Calls PyProof.Rows
set_option Elab.async false
set_option linter.unusedVariables false
namespace Mine
open PySem.W.X
noncomputable def kFile : Str := Str.ofString "/claim/cut.py"
/-- the entries of the class's namespace -/
noncomputable def esOf (I : Nat → Int) (B : Nat → Tok) (C : Nat → Addr) (f1 f2 b : Addr) : Array DictEntry :=
  kEs5 (I 0) (I 1) (I 2) (I 3) (I 4) (I 5) (I 6) (I 7) (I 8) (I 9) (I 10) (I 11) (I 12) (B 0) (B 1) (B 2) (B 3) (B 4) (B 5) (B 6) (B 7) (B 8) (B 9) (B 10) (B 11) (B 12) (.str (Str.ofString "cpy313.functools") (B 13)) (.int 47 (B 15)) (C 1) f1 f2 (C 2) (C 3) (C 4) (C 5) (C 6) (.ref b)
/-- the class that cmp_to_key makes, all of it that is used later -/
noncomputable def KAll (h : Heap) (a ns b f1 f2 c1 c2 cell : Addr) : Prop :=
  ∃ (I : Nat → Int) (B : Nat → Tok) (C : Nat → Addr) (o1 o2 : Obj) (pm : Value),
    h.get? a = some ⟨.type "type", none, .cls (clsD a ns false [sO]), clsSl (C 0) (B 16) (B 14)⟩ ∧
    h.get? ns = some (dObj (esOf I B C f1 f2 b) 3) ∧
    h.get? b = some (memD a (B 17)) ∧ h.get? f1 = some (kFnO 2 [] .none c1 pm) ∧ h.get? c1 = some o1 ∧ kFnC 2 kFile 181 (C 8) o1 ∧
    h.get? f2 = some (kFnO 3 [(Str.ofString "mycmp", cell)] (.ref (C 7)) c2 pm) ∧ h.get? c2 = some o2 ∧ kFnC 3 kFile 181 (C 9) o2 ∧ h.get? cell = some { cls := .type "cell", data := .cell (some (.ref 129)) }
theorem kFnC_cls {i : Nat} {file : Str} {text : Nat} {P : Addr} {o : Obj} (x : kFnC i file text P o) : o.cls = .type "code" := by
  obtain ⟨_, _, _, _, _, _, _, _, _, rfl⟩ := x
  rfl
theorem KAll.keepF {h h' : Heap} {a ns b f1 f2 c1 c2 cell : Addr} (x : KAll h a ns b f1 f2 c1 c2 cell) (k' : ∀ b o, o.cls ≠ .type "frame" → h.get? b = some o → h'.get? b = some o) : KAll h' a ns b f1 f2 c1 c2 cell :=
  have k : ∀ {T : String} (b o), T ≠ "frame" → h.get? b = some o → o.cls = .type T → h'.get? b = some o := fun {T} b o hT e hc => k' b o (by rw [hc]; intro z; injection z with z; exact hT z) e
  Exists.imp (fun I => Exists.imp fun B => Exists.imp fun C => Exists.imp fun o1 => Exists.imp fun o2 => Exists.imp fun pm z =>
    ⟨k _ _ (by decide) z.1 rfl, k _ _ (by decide) z.2.1 rfl, k _ _ (by decide) z.2.2.1 rfl, k _ _ (by decide) z.2.2.2.1 rfl, k _ _ (by decide) z.2.2.2.2.1 (kFnC_cls z.2.2.2.2.2.1), z.2.2.2.2.2.1,
      k _ _ (by decide) z.2.2.2.2.2.2.1 rfl, k _ _ (by decide) z.2.2.2.2.2.2.2.1 (kFnC_cls z.2.2.2.2.2.2.2.2.1), z.2.2.2.2.2.2.2.2.1, k _ _ (by decide) z.2.2.2.2.2.2.2.2.2 rfl⟩) x
theorem KAll.keep {h h' : Heap} {a ns b f1 f2 c1 c2 cell : Addr} (x : KAll h a ns b f1 f2 c1 c2 cell) (k : Kp h h') : KAll h' a ns b f1 f2 c1 c2 cell := x.keepF fun b o _ e => k b o e
section
variable {prog : Program} {w : World} {A : Around} {E : Value → Shared → Prop} {s : Shared} {nsA cc fr cell : Addr}
theorem sattr {a1 a2 a3 a4 a5 a6 a7 a8 a9 a10 a11 : Int} {b1 b2 b3 b4 b5 b6 b7 b8 b9 b10 b11 : Tok} {tm t9 t10 : Tok} {sl f1 f2 f3 f4 f5 f6 : Addr} {Q : Unit → Shared → Prop}
    (ho : s.heap.get? nsA = some (dObj (kEs a1 a2 a3 a4 a5 a6 a7 a8 a9 a10 a11 b1 b2 b3 b4 b5 b6 b7 b8 b9 b10 b11 (.str (Str.ofString "cpy313.functools") tm) (.str (Str.ofString "cmp_to_key.<locals>.K") t9) (.int 47 t10) sl f1 f2 f3 f4 f5 f6) 11))
    (hQ : ∀ st a12 b12 ot h' t', (∀ b o, b ≠ nsA → s.heap.get? b = some o → h'.get? b = some o) →
      h'.get? nsA = some (dObj (kEs2 a1 a2 a3 a4 a5 a6 a7 a8 a9 a10 a11 a12 b1 b2 b3 b4 b5 b6 b7 b8 b9 b10 b11 b12 (.str (Str.ofString "cpy313.functools") tm) (.str (Str.ofString "cmp_to_key.<locals>.K") t9) (.int 47 t10) sl f1 f2 f3 f4 f5 f6 st) 12) →
      h'.get? st = some ot → ot.cls = .type "tuple" → Q () { s with heap := h', toks := t' }) :
    wpAny (model prog w) A (do
      let l ← List.mapM mkText [Str.ofString "obj"]
      let v ← newTextTuple l
      storeName (cEnv kScope nsA cc fr cell) (Str.ofString "__static_attributes__") v
      pure ()) Q E s := by
  rw [List.mapM_cons, List.mapM_nil]
  refine wpAny_bind (wpAny_bind (wpAny_mkText (wpAny_bind (wpAny_pure (wpAny_pure ?_)))))
  refine wpAny_bind (m := newTextTuple _) (wpAny_newObjAsIs_type ?_)
  have hlt := Heap.lt_size ho
  refine wpAny_bind (cstore (csc := kScope) rfl (.inr ⟨rfl, rfl⟩) (Heap.get?_push_of_some _ ho) (by kernel_rfl) (fun hs tk h' sb hn => wpAny_pure ?_) (fun hs tk => by kernel_rfl))
  refine hQ s.heap.objs.size hs tk _ h' _ (fun b o hb e => sb.extBut b o hb (Heap.get?_push_of_some _ e)) (hn.trans ?_) (sb.extBut _ _ (Nat.ne_of_gt hlt) (gps rfl rfl)) rfl
  kernel_rfl
end
/-- the end of the class statement -/
theorem ktail {prog : Program} {w : World} {A : Around} {E E' : Value → Shared → Prop} {Q : Value → Shared → Prop} {h12 : Heap} {g : Array GenState} {d : Drawn} {t : Nat} {os : OsState} {nsA Ta cc fr cell : Addr} {nt : Tok} {oS : Obj}
    {a1 a2 a3 a4 a5 a6 a7 a8 a9 a10 a11 : Int} {b1 b2 b3 b4 b5 b6 b7 b8 b9 b10 b11 : Tok} {tm t9 t10 ts : Tok} {sl f1 f2 f3 f4 f5 f6 c1 c2 ct2 ct3 ct4 ct5 ct6 c3 c4 c5 c6 P1 P2 : Addr} {o1 o2 : Obj} {pm : Value}
    (hh : A.handled = none) (hd : A.depth ≤ 820) (hu : A.units + 2 ≤ 7200) (hsm : ¬ nsA = sysModules) (hst : cStatics ≠ nsA)
    (eN : h12.get? nsA = some (dObj (kEs a1 a2 a3 a4 a5 a6 a7 a8 a9 a10 a11 b1 b2 b3 b4 b5 b6 b7 b8 b9 b10 b11 (.str (Str.ofString "cpy313.functools") tm) (.str (Str.ofString "cmp_to_key.<locals>.K") t9) (.int 47 t10) sl f1 f2 f3 f4 f5 f6) 11))
    (eT : h12.get? Ta = some { cls := .type "tuple", data := .seq #[.type "object"] }) (hTN : Ta ≠ nsA)
    (eS : h12.get? sl = some { cls := .type "list", data := .seq #[.str (Str.ofString "obj") ts] })
    (eF1 : h12.get? f1 = some (kFnO 2 [] .none c1 pm)) (eC1 : h12.get? c1 = some o1) (iC1 : kFnC 2 kFile 181 P1 o1)
    (eF2 : h12.get? f2 = some (kFnO 3 [(Str.ofString "mycmp", cell)] (.ref ct2) c2 pm)) (eC2 : h12.get? c2 = some o2) (iC2 : kFnC 3 kFile 181 P2 o2)
    (eF3 : h12.get? f3 = some (kFnO 4 [(Str.ofString "mycmp", cell)] (.ref ct3) c3 pm)) (eF4 : h12.get? f4 = some (kFnO 5 [(Str.ofString "mycmp", cell)] (.ref ct4) c4 pm))
    (eF5 : h12.get? f5 = some (kFnO 6 [(Str.ofString "mycmp", cell)] (.ref ct5) c5 pm)) (eF6 : h12.get? f6 = some (kFnO 7 [(Str.ofString "mycmp", cell)] (.ref ct6) c6 pm))
    (eCell : h12.get? cell = some { cls := .type "cell", data := .cell (some (.ref 129)) })
    (eSt : h12.get? cStatics = some oS) (hA : nsLook (Str.ofString "thirdparty.any") oS = pure none)
    (hQ : ∀ a ns b h' t', (∀ x o, x ≠ nsA → h12.get? x = some o → h'.get? x = some o) → KAll h' a ns b f1 f2 c1 c2 cell → Q (.ref a) ⟨h', g, d, t', os⟩) :
    wpAny (model prog w) A (do
        let l ← List.mapM mkText [Str.ofString "obj"]
        let v ← newTextTuple l
        storeName (cEnv kScope nsA cc fr cell) (Str.ofString "__static_attributes__") v
        pure ())
      (fun _ s' => wpAny (model prog w) A (call (.type "type") [.str (Str.ofString "K") nt, .ref Ta, .ref nsA]) Q E s') E' ⟨h12, g, d, t, os⟩ := by
  have ne : ∀ {x : Addr} {o : Obj}, h12.get? x = some o → o.cls ≠ .type "dict" → x ≠ nsA := fun {x o} e hc z => by
    rw [z, eN] at e
    injection e with e
    exact hc (by rw [← e]; rfl)
  have nf : ∀ {i : Nat} {cl ct c pm}, (kFnO i cl ct c pm).cls ≠ .type "dict" := fun z => by injection z with z; exact absurd z (by decide)
  refine sattr eN fun st a12 b12 ot h13 t13 k13 eN' eSt' hot => ?_
  refine type_call3 (tn1 (oS := oS) (ep := 12) hh ?_ ?_ (nsF_ok a1 a2 a3 a4 a5 a6 a7 a8 a9 a10 a11 a12 b1 b2 b3 b4 b5 b6 b7 b8 b9 b10 b11 b12 sl f1 f2 f3 f4 f5 f6 st tm t9 t10
    (k13 _ _ (ne eF1 nf) eF1) rfl (k13 _ _ (ne eF2 nf) eF2) rfl (k13 _ _ (ne eF3 nf) eF3) rfl (k13 _ _ (ne eF4 nf) eF4) rfl (k13 _ _ (ne eF5 nf) eF5) rfl (k13 _ _ (ne eF6 nf) eF6) rfl
    (k13 _ _ (ne eS (by intro z; injection z with z; exact absurd z (by decide))) eS) rfl eSt' hot) (beq_eq_false_iff_ne.mpr hsm) eN' (k13 _ _ hTN eT) (k13 _ _ (ne eS (by intro z; injection z with z; exact absurd z (by decide))) eS) (k13 _ _ ?_ eSt) hA
    fun a ns b tb hs tk hs' tk' h' t' kp hn1 e1 e2 e3 => ?_)
  · exact hd
  · show A.units + 1 + 1 ≤ 7200; (first | lia | omega)
  · exact hst
  · rw [o3_eq] at e2
    refine ⟨a, _, rfl, e1, rfl, hQ a ns b h' t' (fun x o hx e => kp _ _ (k13 x o hx e)) ?_⟩
    refine ⟨fun i => [a1, a3, a4, a5, a6, a7, a8, a9, a10, a11, a12, hs, hs'].getD i 0, fun i => [b1, b3, b4, b5, b6, b7, b8, b9, b10, b11, b12, tk, tk', tm, t9, t10, nt, tb].getD i tb, fun i => [Ta, sl, f3, f4, f5, f6, st, ct2, P1, P2].getD i 0, o1, o2, pm, e1, e2, e3, kp _ _ (k13 _ _ (ne eF1 nf) eF1), kp _ _ (k13 _ _ ?_ eC1), iC1, kp _ _ (k13 _ _ (ne eF2 nf) eF2), kp _ _ (k13 _ _ ?_ eC2), iC2, kp _ _ (k13 _ _ ?_ eCell)⟩
    · exact ne eC1 (by rw [kFnC_cls iC1]; intro z; injection z with z; exact absurd z (by decide))
    · exact ne eC2 (by rw [kFnC_cls iC2]; intro z; injection z with z; exact absurd z (by decide))
    · exact ne eCell (by intro z; injection z with z; exact absurd z (by decide))
end Mine

end
section
open PySem PySem.W PySem.Calls PyProof.Rows
set_option Elab.async false
set_option linter.unusedVariables false
namespace Mine
open PySem.W.X
local macro_rules | `(tactic| walk_at "m2") => `(tactic| ((fail_if_success (first | with_reducible show wpAny _ _ (nsGet _ _) _ _ _ | with_reducible show wpAny _ _ (buildClass _ _ _ _ _ _ _ _ _ _ _) _ _ _ | with_reducible show wpAny _ _ (getAttr? _ _) _ _ _ | with_reducible show wpAny _ _ (call _ _ _) _ _ _ | with_reducible show wpAny _ _ (classCode _ _ _ _ _ _) _ _ _ | with_reducible show wpAny _ _ (enterFrame) _ _ _ | with_reducible show wpAny _ _ (storeName _ _ _) _ _ _ | with_reducible show wpAny _ _ (builtinsFor _ _) _ _ _)); first | with_reducible refine wpAny_standAt ?_ | with_reducible refine wpAny_fresh' ?_ | walk_at "m1"))
theorem c_dgi : typeLookup (.type "dict") (Str.ofString "__getitem__") = pure (some (.builtin "dict.__getitem__")) := by kernel_rfl
theorem hideEnv {prog : Program} {w : World} {A : Around} {E Q : Value → Shared → Prop} {s : Shared} {n q : Str} {g : List Value} {kw : List (Str × Value)} {b : List Stmt} {sc : Scope} {st : List Str} {fl : Nat} {env : Env} {pos : Pos} {tp : Option Value}
    (h : ∀ e, e = env → ∀ Q', Q' = Q → wpAny (model prog w) A (buildClass n q g kw b sc st fl e pos tp) Q' E s) : wpAny (model prog w) A (buildClass n q g kw b sc st fl env pos tp) Q E s := h _ rfl _ rfl
set_option maxRecDepth 100000 in
set_option maxHeartbeats 8000000 in
theorem ctk0 : ∀ (w : World) (mg mb : Str → Option Value) (s : Shared) (Q E : Value → Shared → Prop),
    (Mine.K2 w.params).In s.heap → TopRead Mine.myView LS mg mb s.heap → s.heap.get? 37 = some (tableObj #[]) →
    (∀ a ns b f1 f2 c1 c2 cell h' tk, (∀ x o, x ≠ 37 → s.heap.get? x = some o → h'.get? x = some o) → (∃ ps, h'.get? 37 = some (tableObj ps)) → KAll h' a ns b f1 f2 c1 c2 cell → Q (.ref a) { s with heap := h', toks := tk }) →
    wpAny (model PySem.Challenge.rw_om0053_01.prog w) (AA 12) (call (.ref 42) [.ref 129]) Q E s := by
  k_fill
  intro w mg mb s Q E X T h37 hret
  refine wpAny_call ?_
  refine codeAny_call_function (by decide) (X _ _ (by k_is)) rfl rfl rfl rfl (codeRec_of X (by k_is)) ?_
  refine wpAny_pure (a := [(Str.ofString "mycmp", Value.ref 129)]) ?_
  simp only [newFunctionEnv, Option.isSome_none, Bool.false_eq_true, if_false]
  refine wpAny_bind (wpAny_alloc ?_)
  with_reducible refine wpAny_bind (ml_cons (wpAny_ite_true rfl (wpAny_bind (wpAny_alloc (wpAny_pure (ml_cons (wpAny_ite_false rfl (wpAny_pure (ml_cons (wpAny_ite_false rfl (wpAny_pure (ml_nil ?_))))))))))))
  refine wpAny_bind (ml_cons (wpAny_bind ?_))
  have hL : s.heap.get? s.heap.objs.size = none := get_size _
  generalize hh2 : ((s.heap.push { cls := .type "frame", data := .dict #[] }).push { cls := .type "cell", data := .cell none } : Heap) = h2
  have k2 : Kp s.heap h2 := fun b o e => hh2 ▸ Heap.get?_push_of_some _ (Heap.get?_push_of_some _ e)
  have eL : h2.get? s.heap.objs.size = some { cls := .type "frame", data := .dict #[] } := hh2 ▸ Heap.get?_push_of_some _ (gps rfl rfl)
  generalize hcell : (s.heap.push { cls := .type "frame", data := .dict #[] } : Heap).objs.size = cell
  have eC : h2.get? cell = some { cls := .type "cell", data := .cell none } := by subst hh2 hcell; exact gps rfl rfl
  have hcL : s.heap.objs.size + 1 = cell := by rw [← hcell, Heap.size_push]
  clear hh2 hcell
  unfold storeName
  repeat walk_at "m1"
  refine wpAny_update eC ?_
  generalize hh3 : (h2.update cell _ : Heap) = h3
  have hlt : s.heap.objs.size < cell := by (first | lia | omega)
  have k3 : Kp s.heap h3 := fun b o e => hh3 ▸ (Heap.SameBut.update ..).extBut b o (by have := Heap.lt_size e; exact Nat.ne_of_lt (Nat.lt_trans this hlt)) (k2 b o e)
  have eL3 : h3.get? s.heap.objs.size = some { cls := .type "frame", data := .dict #[] } := hh3 ▸ (Heap.SameBut.update ..).extBut _ _ (Nat.ne_of_lt hlt) eL
  have eC3 : h3.get? cell = some { cls := .type "cell", data := .cell (some (.ref 129)) } := hh3 ▸ Heap.get?_update_self _ eC rfl
  clear hh3 eL eC k2
  refine wpAny_pure (ml_nil (wpAny_pure ⟨T.nolimit.keeps k3, codeAny_func (wpAny_execs_cons ?_)⟩))
  generalize hLL : s.heap.objs.size = L at *
  have X3 : (Mine.K2 w.params).In h3 := X.keeps k3
  have T3 := T.keeps k3
  have e37 := k3 _ _ h37
  rw [arm_exec_ClassDef]
  refine wpAny_bind (wpAny_pure (wpAny_bind (wpAny_standAt (wpAny_bind ?_))))
  generalize hA : (AA 12).deeper _ = A'
  have hh : A'.handled = none := by rw [← hA]; rfl
  have hd : A'.depth ≤ 700 := by rw [← hA]; exact Nat.le_of_ble_eq_true rfl
  have hu : A'.units ≤ 5000 := by rw [← hA]; exact Nat.le_of_ble_eq_true rfl
  clear hA
  have hbc : mb (Str.ofString "__build_class__") = some (.builtin "__build_class__") := (T.builtins _ (by decide)).trans (by boot_by_name)
  have hob : mb (Str.ofString "object") = some (.type "object") := (T.builtins _ (by decide)).trans (by boot_by_name)
  have hog : mg (Str.ofString "object") = none := mg_none_of X T.g (by k_is)
  unfold buildClassGuard
  refine wpAny_bind (wpAny_nsGet T3.b ?_)
  rw [hbc]
  refine wpAny_pure (wpAny_bind (wpAny_holding (wpAny_bind ?_)))
  unfold evalArgs
  repeat walk_at "m2"
  refine wpAny_nsGet T3.g ?_
  rw [hog]
  repeat walk_at "m2"
  refine wpAny_nsGet T3.b ?_
  rw [hob]
  repeat walk_at "m2"
  with_reducible refine wpAny_mono (Q := fun v s' => ∃ a ns b f1 f2 c1 c2 h' tk, v = .ref a ∧ KAll h' a ns b f1 f2 c1 c2 cell ∧ (∀ x o, x ≠ 37 → h3.get? x = some o → h'.get? x = some o) ∧ (∃ ps, h'.get? 37 = some (tableObj ps)) ∧ s' = ⟨h', s.gens, s.drawn, tk, s.os⟩) (E := fun _ _ => False) ?build ?_ (fun _ _ z => z.elim)
  rotate_left 1
  · rintro v s' ⟨a, ns, b, f1, f2, c1, c2, h', tk, rfl, hK, hk, h37', rfl⟩
    have eL' : h'.get? L = some { cls := .type "frame", data := .dict #[] } := hk _ _ (fun z => by rw [z, e37] at eL3; cases eL3) eL3
    have nL : h'.Ns L (fun _ => none) := ⟨_, #[], 0, eL', rfl, fun e he => absurd he (by simp), fun _ => rfl⟩
    show wpAny _ _ (decorate [] (.ref a) >>= _) _ _ _
    with_reducible refine wpAny_bind (wpAny_of_eq (a := Value.ref a) rfl (wpAny_bind (wpAny_standAt (wpAny_bind (wpAny_bindName (wpAny_storeName_local rfl nL (fun h'' hn hs => wpAny_pure ?_) rfl))))))
    have hs' : Heap.SameBut L h' h'' := hs
    refine wpAny_execs_cons (wpAny_Return_some (wpAny_Name (wpAny_loadName_local (v := .ref a) rfl rfl hn rfl ?_)))
    refine hret a ns b f1 f2 c1 c2 cell h'' _ (fun x o hx e => hs'.extBut x o (fun z => by rw [z, hL] at e; cases e) (hk x o hx (k3 _ _ e))) ?_ (hK.keepF fun x o hc e => hs'.extBut x o (fun z => by rw [z, eL'] at e; injection e with e; exact hc (by rw [← e])) e)
    obtain ⟨ps, h37'⟩ := h37'
    exact ⟨ps, hs'.extBut _ _ (fun z => by rw [z, eL'] at h37'; cases h37') h37'⟩
  show wpAny _ _ (buildClass (Str.ofString "K") _ [.type "object"] [] _ _ _ _ _ _ _) _ _ _
  with_reducible refine hideEnv fun env henv Qb hQb => ?_
  unfold buildClass
  have D := Mem.start h3
  repeat walk_at "m2"
  with_reducible refine ml_alloc (o := { cls := .type "tuple", data := .seq #[.type "object"] }) D rfl fun Ta h4 D4 => ?_
  clear D
  repeat walk_at "m2"
  have hmt : ((Manifest.find? "object").elim "type" fun x => x.metatype) = "type" := by kernel_rfl
  rw [hmt]
  with_reducible refine prep_get hh (by (first | lia | omega)) (by (first | lia | omega)) fun pb h5 D5 => ?_
  refine wpAny_bind (AA_mono 23 (prep_call2 _ _ _ _ _ _ _ _ _ _ pb Ta (D5.at 0 _ _ rfl) fun nsA h6 D6 => ?_) hh (by (first | lia | omega)) (by (first | lia | omega)))
  have k6 : Kp h3 h6 := fun b o e => mem_kp D6 _ _ (mem_kp D5 _ _ (mem_kp D4 _ _ e))
  have eT6 := mem_kp D6 _ _ (mem_kp D5 _ _ (D4.at 0 _ _ rfl))
  have eN6 := D6.at 0 _ _ rfl
  have nN3 : h3.get? nsA = none := by
    cases q : h3.get? nsA with
    | none => rfl
    | some o => exact absurd ((D6.nw _ (.head _)).2) (by rw [mem_kp D5 _ _ (mem_kp D4 _ _ q)]; exact fun z => nomatch z)
  have hTN : Ta ≠ nsA := fun z => by
    have := (D6.nw _ (.head _)).2
    rw [show (nsA, ({ cls := .type "dict", data := .dict #[] } : Obj)).1 = Ta from z.symm, mem_kp D5 _ _ (D4.at 0 _ _ rfl)] at this
    cases this
  clear D4 D5 D6
  have D := Mem.start h6
  repeat walk_at "m2"
  have hsm : ¬ nsA = sysModules := fun z => by rw [z, X3 sysModules _ (by k_is)] at nN3; cases nN3
  refine wpAny_ite_false (decide_eq_false (by simpa using hsm)) ?_
  refine wpAny_pure (wpAny_bind (wpAny_specialOf (T := "dict") ⟨_, eN6, rfl⟩ c_dgi ?_))
  repeat walk_at "m2"
  have hq : ∀ e : Env, e.qual = Str.ofString "cmp_to_key" ++ Str.ofString ".<locals>." → (e.kindOf (Str.ofString "K") == some NameKind.globalExplicit) = false → qualnameIn e (Str.ofString "K") (Str.ofString "K") = Str.ofString "cmp_to_key.<locals>.K" := fun e h1 h2 => by
    unfold qualnameIn
    rw [h2, h1]
    rfl
  subst henv
  rw [hq _ rfl rfl]
  unfold classCode
  refine codeAt_ok (So := fun P' o' => IsCl (Str.ofString "K") (Str.ofString "cmp_to_key.<locals>.K") (Str.ofString "/claim/cut.py") 47 0 0 0 0 181 true P' o') rfl (k6 _ _ (X3 41 _ (by k_is))) rfl rfl rfl rfl rfl (k6 _ _ e37) rfl (fun c' => rfl) (fun Q' hQ' => newCode_cls fun c P o h' tk a1 a2 a3 a4 a5 a6 => hQ' c P o h' tk a1 a2 a3 a4 a5 a6) fun cc Pc oc h7 tk7 k7 kc kP ec hC eP e37' => ?_
  have hbm : mg (Str.ofString "__builtins__") = some (.ref 4) := mg_of X T.g (by k_is)
  have hnm : ∃ tn, mg (Str.ofString "__name__") = some (.str (Str.ofString "law_om0053_01") tn) := ⟨_, mg_of X T.g (by k_is)⟩
  obtain ⟨tn, hnm⟩ := hnm
  have g7 : h7.Ns mainGlobals mg := ((T3.g.keeps k6).extBut k7 (by decide))
  refine wpAny_bind (wpAny_builtinsFor g7 hbm (by decide) (k7 _ _ (by decide) (k6 _ _ (X3 4 _ (by k_is)))) rfl rfl rfl ?_)
  unfold newBodyFrame
  refine wpAny_bind (wpAny_bind (wpAny_nsGet g7 ?_))
  rw [hnm]
  refine wpAny_alloc ?_
  refine wpAny_bind (wpAny_of_eq (a := [(Str.ofString "mycmp", cell)]) rfl ?_)
  have ln6 : nsA < h6.objs.size := Heap.lt_size eN6
  have hz7 : h6.objs.size ≤ h7.objs.size := Nat.le_trans kc (Nat.le_of_lt (Heap.lt_size ec))
  generalize hh8 : (h7.push _ : Heap) = h8
  have k8 : Kp h7 h8 := fun b o e => hh8 ▸ Heap.get?_push_of_some _ e
  clear hh8
  show wpAny _ _ (holding [.ref h7.objs.size] _) _ _ _
  generalize h7.objs.size = fr
  refine wpAny_holding ?_
  refine wpAny_bind (wpAny_enterFrame (((T3.nolimit.keeps k6).extBut k7 (by decide)).keeps k8) (Nat.lt_of_le_of_lt hd (by decide)) ?_)
  have g8 : h8.Ns mainGlobals mg := g7.keeps k8
  have hn37 : nsA ≠ 37 := fun z => by rw [z, e37] at nN3; cases nN3
  have eN8 : h8.get? nsA = some (dObj #[] 0) := k8 _ _ (k7 _ _ hn37 eN6)
  obtain ⟨oG, esG, epG, hoG, rG⟩ := id g8
  have hG : ∀ h : Heap, h.get? mainGlobals = some oG → h.get? 4 = some { cls := .type "module", dict := some 0 } → GlobB h mg 4 { cls := .type "module", dict := some 0 } := fun h a b => ⟨⟨oG, esG, epG, a, rG⟩, hbm, by decide, b, rfl, rfl, rfl⟩
  have e48 : h8.get? 4 = some { cls := .type "module", dict := some 0 } := k8 _ _ (k7 _ _ (by decide) (k6 _ _ (X3 4 _ (by k_is))))
  obtain ⟨frc, c1, c2, c3, c4, cu, rfl⟩ := hC
  have l37 : (37 : Nat) < h6.objs.size := Heap.lt_size (k6 _ _ e37)
  have hne : cc ≠ Pc := fun z => by rw [z, eP] at ec; cases ec
  have lG : mainGlobals < h6.objs.size := (T3.g.keeps k6).lt
  have l4 : (4 : Nat) < h6.objs.size := Heap.lt_size (k6 _ _ (X3 4 _ (by k_is)))
  have gN : mainGlobals ≠ nsA := fun z => by obtain ⟨o, _, _, ho, _⟩ := T3.g; rw [z, nN3] at ho; cases ho
  have n4N : (4 : Nat) ≠ nsA := fun z => by rw [← z, X3 4 _ (by k_is)] at nN3; cases nN3
  have B0 : BodyAt h8 nsA cc Pc (Str.ofString "/claim/cut.py") 181 [(mainGlobals, oG), (4, { cls := .type "module", dict := some 0 })] #[] 0 #[] h8 :=
    ⟨fun b o _ _ e => e, fun p hp => by
      rcases List.mem_cons.mp hp with rfl | hp
      · exact ⟨Nat.ne_of_lt (Nat.lt_of_lt_of_le lG kP), gN, hoG⟩
      · rw [List.mem_singleton] at hp; subst hp; exact ⟨Nat.ne_of_lt (Nat.lt_of_lt_of_le l4 kP), n4N, e48⟩,
     eN8, ⟨⟨_, _, _, _, _, _, _, _, _, _, _, k8 _ _ ec, rfl, rfl⟩, k8 _ _ eP, hne⟩, Nat.ne_of_gt (Nat.lt_of_lt_of_le ln6 kc), Nat.ne_of_gt (Nat.lt_of_lt_of_le ln6 kP)⟩
  refine wpAny_bind (wpAny_onRaise (wpAny_bind ?_))
  repeat walk_at "m2"
  refine ml_nsGet (r := none) eN8 (by kernel_rfl) ?_
  repeat walk_at "m2"
  refine wpAny_nsGet g8 ?_
  rw [hnm]
  refine wpAny_pure ?_
  refine wpAny_bind (b_store (csc := kScope) (fr := fr) (cell := cell) (x := Str.ofString "__module__") (v := .str (Str.ofString "law_om0053_01") tn) (n' := 1) (es' := fun hs tk => #[⟨hs, .str (Str.ofString "__module__") tk, .str (Str.ofString "law_om0053_01") tn⟩]) B0 rfl (.inl rfl) (by kernel_rfl) (fun hs tk => by kernel_rfl) fun a1 b1 h9 t9 B1 => ?_)
  clear B0
  refine wpAny_bind (wpAny_mkText (wpAny_bind (b_store (csc := kScope) (fr := fr) (cell := cell) (x := Str.ofString "__qualname__") (v := .str (Str.ofString "cmp_to_key.<locals>.K") t9) (n' := 2) (es' := fun hs tk => #[⟨a1, .str (Str.ofString "__module__") b1, .str (Str.ofString "law_om0053_01") tn⟩, ⟨hs, .str (Str.ofString "__qualname__") tk, .str (Str.ofString "cmp_to_key.<locals>.K") t9⟩]) B1 rfl (.inr ⟨rfl, rfl⟩) (by kernel_rfl) (fun hs tk => by kernel_rfl) fun a2 b2 h10 t10 B2 => ?_)))
  clear B1
  refine wpAny_bind (wpAny_mkInt (wpAny_bind (b_store (csc := kScope) (fr := fr) (cell := cell) (x := Str.ofString "__firstlineno__") (v := .int 47 t10) (n' := 3) (es' := fun hs tk => #[⟨a1, .str (Str.ofString "__module__") b1, .str (Str.ofString "law_om0053_01") tn⟩, ⟨a2, .str (Str.ofString "__qualname__") b2, .str (Str.ofString "cmp_to_key.<locals>.K") t9⟩, ⟨hs, .str (Str.ofString "__firstlineno__") tk, .int 47 t10⟩]) B2 rfl (.inr ⟨rfl, rfl⟩) (by kernel_rfl) (fun hs tk => by kernel_rfl) fun a3 b3 h11 t11 B3 => ?_)))
  clear B2
  refine wpAny_pure (wpAny_bind (wpAny_run (codeAny_body rfl rfl ?_)))
  show wpAny _ _ (execs kBody (cEnv kScope nsA cc fr cell)) _ _ _
  refine kbody_run (fr := fr) (cell := cell) B3 hG (.head _) (.tail _ (.head _)) fun sl f1 f2 f3 f4 f5 f6 ct2 ct3 ct4 ct5 ct6 c1 c2 c3 c4 c5 c6 P1 P2 o1 o2 a4 a5 a6 a7 a8 a9 a10 a11 b4 b5 b6 b7 b8 b9 b10 b11 tm ts h12 t12 k12 _ eN12 eSl eF1 eC1 iC1 eF2 eC2 iC2 eF3 eF4 eF5 eF6 => ?_
  have f12 : ∀ {x : Addr} {o : Obj}, x ≠ 37 → h6.get? x = some o → x ≠ nsA → h12.get? x = some o := fun {x o} hx e hn => k12 _ _ (fun z => by have := Heap.lt_size e; rw [z] at this; exact Nat.lt_irrefl _ (Nat.lt_of_lt_of_le this kP)) hn (k8 _ _ (k7 _ _ hx e))
  have e37n : h12.get? 37 = some (tableObj (#[] ++ #[rawInt 47, rawInt 4, Value.ref cc])) := k12 _ _ (Nat.ne_of_lt (Nat.lt_of_lt_of_le l37 kP)) (Ne.symm hn37) (k8 _ _ e37')
  have c37 : cell ≠ 37 := fun z => by rw [z, e37] at eC3; cases eC3
  have cN : cell ≠ nsA := fun z => by rw [z, nN3] at eC3; cases eC3
  have T37 : Ta ≠ 37 := fun z => by rw [z, k6 _ _ e37] at eT6; cases eT6
  have sN : cStatics ≠ nsA := fun z => by rw [← z, X3 cStatics _ (by k_is)] at nN3; cases nN3
  show wpAny _ _ _ _ _ (Shared.mk h12 s.gens s.drawn t12 s.os)
  refine wpAny_bind (wpAny_onRaise ?_)
  refine wpAny_mono (ktail (Q := Qb) (E := fun _ _ => False) (E' := _) (nt := s.toks) (Ta := Ta) (cc := cc) (fr := fr) hh (by (first | lia | omega)) (by (first | lia | omega)) hsm sN eN12 (f12 T37 eT6 hTN) hTN eSl eF1 eC1 iC1 eF2 eC2 iC2 eF3 eF4 eF5 eF6 (f12 c37 (k6 _ _ eC3) cN) (f12 (by decide) (k6 _ _ (X3 cStatics _ (by k_is))) sN) (by kernel_rfl) fun a ns b h' t' kp hK => ?_) (fun _ s' hs' => ?_) (fun _ _ x => x)
  · subst hQb
    refine ⟨a, ns, b, f1, f2, c1, c2, h', t', rfl, hK, fun x o hx e => ?_, ⟨_, kp _ _ (Ne.symm hn37) e37n⟩, rfl⟩
    have hxN : x ≠ nsA := fun z => by rw [z, nN3] at e; cases e
    exact kp _ _ hxN (f12 hx (k6 _ _ e) hxN)
  · exact wpAny_ite_false rfl (wpAny_bind (wpAny_mono hs' (fun v s'' hv => wpAny_pure hv) fun _ _ x => x))
end Mine

end
end
section
open PySem PySem.W PySem.Calls PyProof.Rows
set_option Elab.async false
set_option linter.unusedVariables false
namespace Mine
open PySem.W.X
section
variable {prog : Program} {w : World} {A : Around} {E : Value → Shared → Prop} {h : Heap} {g : Array GenState} {d : Drawn} {t : Nat} {os : OsState} {a ns T v : Addr} {nt t9 : Tok}
/-- the class, as the library's class object -/
noncomputable abbrev kC (a ns T : Addr) (nt t9 : Tok) : Obj := excClassObj (Str.ofString "K") (Str.ofString "cmp_to_key.<locals>.K") a ns [.type "object"] [.type "object"] false [sO] [] false none none (some (.ref T)) none (some (.str (Str.ofString "K") nt)) (some (.str (Str.ofString "cmp_to_key.<locals>.K") t9)) (some (.bool false)) "object.__new__"
theorem kC_eq : (⟨.type "type", none, .cls (clsD a ns false [sO]), clsSl T nt t9⟩ : Obj) = kC a ns T nt t9 := rfl
theorem k_call {rest : List Value} {Q : Value → Shared → Prop} (hC : h.get? a = some (kC a ns T nt t9))
    (hq : wpAny (model prog w) (A.under (.builtin "type.__call__" ⟨.ref a :: rest, []⟩)) (Builtin.«type.__call__» ⟨.ref a :: rest, []⟩) (fun f s' => ∃ x, f = .done (.ret x) ∧ Q x s') E ⟨h, g, d, t, os⟩) :
    wpAny (model prog w) A (call (.ref a) rest) Q E ⟨h, g, d, t, os⟩ := by
  have f1 := tc_lookup
  have f2 := tc_bind (.ref a)
  have hT : (⟨h, g, d, t, os⟩ : Shared).TypeIs (.ref a) "type" := ⟨_, hC, rfl⟩
  refine wpAny_call (codeAny_of_tree ?_)
  show wpAny _ _ (callAny (.ref a) _) _ _ _
  repeat (any_goals (first | assumption | with_reducible refine wpAny_loadPart_at hC ?_ | wp_step))
  refine ⟨rfl, ?_⟩
  with_reducible refine codeAny_call_builtin_at (Code.quiet_builtin _ (by decide +kernel)) entry_typeCall (wpAny_check_type_call_sub hC (wpAny_mono hq (fun f s' hf => ?_) fun _ _ x => x))
  obtain ⟨x, rfl, hx⟩ := hf
  exact hx
theorem k_obj_init : typeLookup (.type "object") (Str.ofString "__init__") = pure (some (.builtin "object.__init__")) := by kernel_rfl
theorem k_lookup {name : Str} {oN : Obj} {x : Value} {Q : Option Value → Shared → Prop} (hC : h.get? a = some (kC a ns T nt t9)) (hN : h.get? ns = some oN) (hl : nsLook name oN = pure (some x)) (hq : Q (some x) ⟨h, g, d, t, os⟩) :
    wpAny (model prog w) A (typeLookup (.ref a) name) Q E ⟨h, g, d, t, os⟩ := by
  unfold typeLookup
  refine wpAny_bind (wpAny_mroOf_exc hC (wpAny_bind (ml_cons (wpAny_bind ?_))))
  unfold classOwn classData
  refine wpAny_bind (wpAny_bind (wpAny_load hC (wpAny_pure ?_)))
  unfold nsGet
  exact wpAny_bind (wpAny_loadPart hN (wpAny_of_eq hl (wpAny_pure (wpAny_pure hq))))
/-- object.__new__ of the class -/
theorem k_made {oN : Obj} {f1 : Addr} {Q : Fin → Shared → Prop} (hC : h.get? a = some (kC a ns T nt t9)) (hN : h.get? ns = some oN) (hl : nsLook (Str.ofString "__init__") oN = pure (some (.ref f1)))
    (hq : Q (.done (.ret (.ref (h.objs.size + 1)))) ⟨(h.push { cls := .type "dict", data := .dict #[] }).push { cls := .ref a, dict := some h.objs.size, data := .plain }, g, d, t, os⟩) :
    wpAny (model prog w) A (Builtin.«object.__new__» ⟨[.ref a, .ref v], []⟩) Q E ⟨h, g, d, t, os⟩ := by
  unfold Builtin.«object.__new__»
  have hne : (some (Value.ref f1) != some (Value.builtin "object.__init__")) = true := rfl
  repeat (first | with_reducible refine wpAny_madeHere_exc rfl hC ?_ | with_reducible refine wpAny_madeBy_exc hC ?_ | with_reducible refine wpAny_loadPart_at hC ?_ | (with_reducible refine k_lookup hC hN hl ?_; rw [hne]) | wp_step)
  show wpAny _ _ (alloc _ >>= fun z => pure (some z)) _ _ _
  refine wpAny_bind (wpAny_alloc (wpAny_pure ?_))
  unfold newObj
  repeat wp_step
  rw [Heap.size_push]
  exact hq
set_option maxRecDepth 100000 in
theorem k_new_check {M : Model} {rest : List Value} {Q : Unit → Shared → Prop} (hC : h.get? a = some (kC a ns T nt t9)) (hq : Q () ⟨h, g, d, t, os⟩) :
    wpAny M A (checkBuiltinCall "object.__new__" ⟨.ref a :: rest, []⟩) Q E ⟨h, g, d, t, os⟩ := by
  have hcont : (Value.ref a :: [Value.type "object"]).contains (.type "object") = true := by rw [List.contains_cons, show [Value.type "object"].contains (.type "object") = true from by decide, Bool.or_true]
  unfold checkBuiltinCall
  rw [F.objNew.kind, F.objNew.split]
  dsimp -zeta only
  repeat (first | with_reducible refine wpAny_loadPart_at hC ?_ | (with_reducible refine wpAny_isSubtype_exc hC ?_; rw [hcont]) | with_reducible refine wpAny_staticBase_exc hC ?_ | with_reducible refine wpAny_madeBy_exc hC ?_ | rw [bne_self_eq_false] | wp_step)
  exact hq
/-- the call of the class: a new object, and __init__ -/
theorem k_call_init {oN : Obj} {f1 : Addr} {oI : Obj} {Q : Value → Shared → Prop} (hC : h.get? a = some (kC a ns T nt t9)) (hN : h.get? ns = some oN) (hl : nsLook (Str.ofString "__init__") oN = pure (some (.ref f1)))
    (hf : h.get? f1 = some oI) (hfc : oI.cls = .type "function")
    (hq : ∀ h', Kp h h' → h.get? (h.objs.size + 1) = none → h'.get? (h.objs.size + 1) = some { cls := .ref a, dict := some h.objs.size, data := .plain } →
      wpAny (model prog w) (A.under (.builtin "type.__call__" ⟨[.ref a, .ref v], []⟩)) (call (.ref f1) [.ref (h.objs.size + 1), .ref v]) (fun r s' => r = .none ∧ Q (.ref (h.objs.size + 1)) s') E ⟨h', g, d, t, os⟩) :
    wpAny (model prog w) A (call (.ref a) [.ref v]) Q E ⟨h, g, d, t, os⟩ := by
  refine k_call hC ?_
  unfold Builtin.«type.__call__»
  repeat (first | with_reducible refine wpAny_loadPart_at hC ?_ | with_reducible refine wpAny_madeBy_exc hC ?_ | wp_step)
  with_reducible refine codeAny_call_builtin_code (Code.quiet_builtin _ F.objNew.quiet) (k_new_check hC (codeAny_builtin F.objNew.entry (k_made hC hN hl ?_)))
  show wpAny _ _ _ _ _ _
  generalize hh : ((h.push { cls := .type "dict", data := .dict #[] }).push { cls := .ref a, dict := some h.objs.size, data := .plain } : Heap) = h'
  have kp : Kp h h' := fun b o e => hh ▸ Heap.get?_push_of_some _ (Heap.get?_push_of_some _ e)
  have hX : h'.get? (h.objs.size + 1) = some { cls := .ref a, dict := some h.objs.size, data := .plain } := hh ▸ Heap.get?_push_at (Heap.size_push ..).symm rfl
  have hcC : (Value.ref a :: [Value.type "object"]).contains (.ref a) = true := by simp
  have hC' := kp _ _ hC
  clear hh
  unfold isInstance
  repeat (first | with_reducible refine wpAny_loadPart_at hX ?_ | (with_reducible refine wpAny_isSubtype_exc hC' ?_; rw [hcC]) | wp_step)
  show wpAny _ _ (typeLookup (.ref a) _) _ _ _
  refine k_lookup hC' (kp _ _ hN) hl (wpAny_holding (wpAny_bind ?_))
  unfold bindSpecial
  refine wpAny_bind (wpAny_typeOf (T := "function") ⟨_, kp _ _ hf, hfc⟩ ?_)
  rw [if_pos (by decide)]
  refine wpAny_pure (wpAny_bind (wpAny_mono (hq h' kp (Heap.get?_none_of_le (Nat.le_succ _)) hX) (fun r s' hr => ?_) fun _ _ x => x))
  obtain ⟨rfl, hQ⟩ := hr
  refine wpAny_pure ?_
  show wpAny _ _ (if (Value.none != Value.none) = true then _ else _) _ _ _
  rw [if_neg (by decide)]
  exact wpAny_pure ⟨_, rfl, hQ⟩
end
end Mine

end
section
open PySem PySem.W PySem.Calls PyProof.Rows
set_option Elab.async false
set_option linter.unusedVariables false
namespace Mine
open PySem.W.X
section
variable {prog : Program} {w : World} {A : Around} {E : Value → Shared → Prop} {h : Heap} {g : Array GenState} {d : Drawn} {t : Nat} {os : OsState} {a ns T v b x dx : Addr} {nt t9 tb : Tok}
theorem k_slotset {Q : Fin → Shared → Prop} (hC : h.get? a = some (kC a ns T nt t9)) (hb : h.get? b = some (memD a tb)) (hx : h.get? x = some { cls := .ref a, dict := some dx, data := .plain })
    (hq : Q (.done (.ret .none)) ⟨h.update x fun o => { o with slots := (o.slots ++ Array.replicate (0 + 1 - o.slots.size) none).setIfInBounds 0 (some (.ref v)) }, g, d, t, os⟩) :
    wpAny (model prog w) A (Builtin.«proto.slot#set» ⟨[.ref x, .ref v, .ref b], []⟩) Q E ⟨h, g, d, t, os⟩ := by
  unfold memD at hb
  unfold Builtin.«proto.slot#set» Builtin.Slots.target
  repeat (first | with_reducible refine wpAny_loadPart_at hb ?_ | with_reducible refine wpAny_loadPart_at hx ?_ | with_reducible refine wpAny_loadPart_at hC ?_ | wp_step)
  exact hq
theorem e_slotset : entryFor table "proto.slot#set" = some Builtin.«proto.slot#set» := entryFor_of_tree (by kernel_rfl)
theorem e_mset : entryFor table "member_descriptor.__set__" = some Builtin.«member_descriptor.__set__» := entryFor_of_tree (by kernel_rfl)
theorem k_mset {Q : Fin → Shared → Prop} (hC : h.get? a = some (kC a ns T nt t9)) (hb : h.get? b = some (memD a tb)) (hx : h.get? x = some { cls := .ref a, dict := some dx, data := .plain })
    (hq : Q (.again (.builtin "proto.slot#set" ⟨[.ref x, .ref v, .ref b], []⟩)) ⟨h, g, d, t, os⟩) :
    wpAny (model prog w) A (Builtin.«member_descriptor.__set__» ⟨[.ref b, .ref x, .ref v], []⟩) Q E ⟨h, g, d, t, os⟩ := by
  have hcC : (Value.ref a :: [Value.type "object"]).contains (.ref a) = true := by simp
  have hb' := hb
  unfold memD at hb'
  unfold Builtin.«member_descriptor.__set__» Builtin.Getset_descriptor.descrSet Builtin.Getset_descriptor.descrStoreThrough Builtin.Getset_descriptor.descrCheckInstance Builtin.Getset_descriptor.descrNameAndClass Builtin.Getset_descriptor.descrItself
  repeat (first | with_reducible refine wpAny_loadPart_at hb' ?_ | with_reducible refine wpAny_loadPart_at hx ?_ | with_reducible refine wpAny_loadPart_at hC ?_ | (with_reducible refine wpAny_isSubtype_exc hC ?_; rw [hcC]) | wp_step)
  show wpAny _ _ (isSubtype (.ref a) (.ref a)) _ _ _
  refine wpAny_isSubtype_exc hC ?_
  rw [hcC]
  repeat (first | with_reducible refine wpAny_loadPart_at hb' ?_ | wp_step)
  exact hq
theorem sl_set : Slot "member_descriptor" (Str.ofString "__set__") "member_descriptor.__set__" := Slot.of (owner := "member_descriptor") (n := "__set__") (by kernel_rfl) (by decide +kernel) (by decide +kernel) (by decide +kernel) (.inl (by kernel_rfl)) (by kernel_rfl) (by decide +kernel)
theorem a_set (p q r : Value) : argsOk "member_descriptor.__set__" ⟨[p, q, r], []⟩ := by unfold argsOk; kernel_rfl
/-- the whole of __set__ -/
theorem k_set {Q : Value → Shared → Prop} (hC : h.get? a = some (kC a ns T nt t9)) (hb : h.get? b = some (memD a tb)) (hx : h.get? x = some { cls := .ref a, dict := some dx, data := .plain })
    (hq : Q .none ⟨h.update x fun o => { o with slots := (o.slots ++ Array.replicate (0 + 1 - o.slots.size) none).setIfInBounds 0 (some (.ref v)) }, g, d, t, os⟩) :
    wpAny (model prog w) A (call (.builtin "member_descriptor.__set__") [.ref b, .ref x, .ref v]) Q E ⟨h, g, d, t, os⟩ := by
  refine wpAny_call (codeAny_call_builtin sl_set.plain e_mset (sl_set.check _ _ _ _ _ _ _ _ ⟨_, hb, rfl⟩ (a_set _ _ _) (k_mset hC hb hx ?_)))
  refine ⟨Code.quiet_builtin _ (by decide +kernel), codeAny_builtin e_slotset (k_slotset hC hb hx ?_)⟩
  exact hq
end
end Mine

end
section
open PySem PySem.W PySem.Calls PyProof.Rows
set_option Elab.async false
set_option linter.unusedVariables false
namespace Mine
open PySem.W.X
section
variable {prog : Program} {w : World} {A : Around} {E : Value → Shared → Prop} {h : Heap} {g : Array GenState} {d : Drawn} {t : Nat} {os : OsState} {a ns T v b x dx : Addr} {nt t9 tb : Tok} {oN : Obj}
theorem m_slots : typeLookup (.type "member_descriptor") (Str.ofString "__set__") = pure (some (.builtin "member_descriptor.__set__")) := by kernel_rfl
theorem k_sa_check {M : Model} {o : Obj} {nameV : Value} {Q : Unit → Shared → Prop} (hC : h.get? a = some (kC a ns T nt t9)) (hx : h.get? x = some o) (hc : o.cls = .ref a) (hq : Q () ⟨h, g, d, t, os⟩) :
    wpAny M A (checkBuiltinCall "object.__setattr__" ⟨[.ref x, nameV, .ref v], []⟩) Q E ⟨h, g, d, t, os⟩ := by
  have hcB : (Value.ref a :: [Value.type "object"]).contains (.type "object") = true := by rw [List.contains_cons, show [Value.type "object"].contains (.type "object") = true from by decide, Bool.or_true]
  have ha := F.store_object.args (.ref x) nameV (.ref v)
  unfold checkBuiltinCall
  rw [F.store_object.kind, F.store_object.split]
  dsimp only
  refine wpAny_bind ?_
  unfold isInstance
  refine wpAny_bind (wpAny_typeOf_ref hx ?_)
  rw [hc]
  refine wpAny_isSubtype_exc hC ?_
  rw [hcB]
  cases hsig : Manifest.signature? "object.__setattr__" with
  | none => exact wpAny_pure hq
  | some sig =>
    simp only [argsOk, hsig] at ha
    have h2 : Bind.checkArgs "object.__setattr__" sig ⟨[.ref x, nameV, .ref v], []⟩ = pure () := ha
    exact wpAny_ite_false (by decide) (wpAny_of_eq h2 hq)
theorem k_sa {tk : Tok} {Q : Fin → Shared → Prop} (hC : h.get? a = some (kC a ns T nt t9)) (hN : h.get? ns = some oN) (hl : nsLook (Str.ofString "obj") oN = pure (some (.ref b))) (hb : h.get? b = some (memD a tb)) (hx : h.get? x = some { cls := .ref a, dict := some dx, data := .plain })
    (hq : Q (.done (.ret .none)) ⟨h.update x fun o => { o with slots := (o.slots ++ Array.replicate (0 + 1 - o.slots.size) none).setIfInBounds 0 (some (.ref v)) }, g, d, t, os⟩) :
    wpAny (model prog w) A (Builtin.«object.__setattr__» ⟨[.ref x, .str (Str.ofString "obj") tk, .ref v], []⟩) Q E ⟨h, g, d, t, os⟩ := by
  have hpass := F.store_object.passes (.ref x)
  have f1 := m_slots
  have hT : (⟨h, g, d, t, os⟩ : Shared).TypeIs (.ref b) "member_descriptor" := ⟨_, hb, rfl⟩
  unfold Builtin.«object.__setattr__»
  repeat (first | rw [refuse_eq] | (rw [refuseLoop_ref, hpass]) | with_reducible refine wpAny_loadPart_at hx ?_ | with_reducible refine wpAny_mroOf_exc hC ?_ | with_reducible refine k_lookup hC hN hl ?_ | wp_step)
  refine wpAny_of_eq (sl_set.bind _) (wpAny_bind (k_set hC hb hx (wpAny_pure (wpAny_pure hq))))
/-- self.obj = v -/
theorem k_sattr {Q : Unit → Shared → Prop} (hC : h.get? a = some (kC a ns T nt t9)) (hN : h.get? ns = some oN) (hl : nsLook (Str.ofString "obj") oN = pure (some (.ref b))) (hls : nsLook (Str.ofString "__setattr__") oN = pure none) (hb : h.get? b = some (memD a tb)) (hx : h.get? x = some { cls := .ref a, dict := some dx, data := .plain })
    (hq : ∀ t', Q () ⟨h.update x fun o => { o with slots := (o.slots ++ Array.replicate (0 + 1 - o.slots.size) none).setIfInBounds 0 (some (.ref v)) }, g, d, t', os⟩) :
    wpAny (model prog w) A (setAttr (.ref x) (Str.ofString "obj") (.ref v)) Q E ⟨h, g, d, t, os⟩ := by
  unfold setAttr
  refine wpAny_bind (wpAny_mkText (wpAny_bind ?_))
  unfold callSpecial? specialOf
  refine wpAny_bind (wpAny_bind (wpAny_typeOf_ref hx (lookup_two hC rfl hN hls F.own_object_setattr ?_)))
  with_reducible refine wpAny_holding (wpAny_bind (wpAny_of_eq (F.store_object.slot.bind (.ref x)) (wpAny_bind ?_)))
  with_reducible refine wpAny_call (codeAny_call_builtin F.store_object.slot.plain F.store_object.entry (k_sa_check hC hx rfl (k_sa hC hN hl hb hx ?_)))
  exact wpAny_pure (wpAny_pure (hq _))
end
end Mine

end
section
open PySem PySem.W PySem.Calls PyProof.Rows
set_option Elab.async false
set_option linter.unusedVariables false
namespace Mine
open PySem.W.X Builtin.Getset_descriptor
/-- one object of the class -/
noncomputable def kInst (a dd : Addr) (v : Value) : Obj := { cls := .ref a, dict := some dd, data := .plain, slots := #[some v] }
theorem initScope_ok : ∀ x ∈ (kFn 2).2.2.2.1.names, x.2 ≠ .cell := by decide +kernel
theorem c_objga : classOwn (.type "object") (Str.ofString "__getattribute__") = pure (some (.builtin "object.__getattribute__")) := by kernel_rfl
theorem c_objgat : classOwn (.type "object") (Str.ofString "__getattr__") = pure none := by kernel_rfl
theorem m_get : typeLookup (.type "member_descriptor") (Str.ofString "__get__") = pure (some (.builtin "member_descriptor.__get__")) := by kernel_rfl
section
variable {prog : Program} {w : World} {A : Around} {E : Value → Shared → Prop} {h : Heap} {g : Array GenState} {d : Drawn} {t : Nat} {os : OsState} {a ns T b x dx : Addr} {nt t9 tb : Tok} {oN : Obj} {v : Value}
theorem k_slotget {Q : Fin → Shared → Prop} (hC : h.get? a = some (kC a ns T nt t9)) (hb : h.get? b = some (memD a tb)) (hx : h.get? x = some (kInst a dx v))
    (hq : Q (.done (.ret v)) ⟨h, g, d, t, os⟩) :
    wpAny (model prog w) A (Builtin.«proto.slot» ⟨[.ref x, .ref b], []⟩) Q E ⟨h, g, d, t, os⟩ := by
  unfold memD at hb
  unfold kInst at hx
  unfold Builtin.«proto.slot» Builtin.Slots.target
  repeat (first | with_reducible refine wpAny_loadPart_at hb ?_ | with_reducible refine wpAny_loadPart_at hx ?_ | with_reducible refine wpAny_loadPart_at hC ?_ | wp_step)
  exact hq
theorem k_get {tp : Value} {Q : Value → Shared → Prop} (hC : h.get? a = some (kC a ns T nt t9)) (hb : h.get? b = some (memD a tb)) (hx : h.get? x = some (kInst a dx v)) (hq : Q v ⟨h, g, d, t, os⟩) :
    wpAny (model prog w) A (call (.builtin "member_descriptor.__get__") [.ref b, .ref x, tp]) Q E ⟨h, g, d, t, os⟩ := by
  have hcC : (Value.ref a :: [Value.type "object"]).contains (.ref a) = true := by simp
  have hb' := hb
  have hx' := hx
  unfold memD at hb'
  unfold kInst at hx'
  refine wpAny_call (codeAny_call_builtin KF.slot_mem.plain KF.entry_mem (KF.slot_mem.check _ _ _ _ _ _ _ _ ⟨_, hb, rfl⟩ (KF.args_mem _ _ _) ?_))
  unfold Builtin.«member_descriptor.__get__» descrGet
  rw [dga_obj]
  refine wpAny_bind (wpAny_pure ?_)
  unfold descrGetter descrCheckInstance descrNameAndClass
  repeat (first | with_reducible refine wpAny_loadPart_at hb' ?_ | with_reducible refine wpAny_loadPart_at hx' ?_ | with_reducible refine wpAny_loadPart_at hC ?_ | (with_reducible refine wpAny_isSubtype_exc hC ?_; rw [hcC]) | wp_step)
  show wpAny _ _ (isSubtype (.ref a) (.ref a)) _ _ _
  refine wpAny_isSubtype_exc hC ?_
  rw [hcC]
  repeat (first | with_reducible refine wpAny_loadPart_at hb' ?_ | wp_step)
  exact ⟨Code.quiet_builtin _ (by decide +kernel), codeAny_builtin KF.entry_slot (k_slotget hC hb hx hq)⟩
theorem k_lookupNone {name : Str} {Q : Option Value → Shared → Prop} (hC : h.get? a = some (kC a ns T nt t9)) (hN : h.get? ns = some oN) (hl : nsLook name oN = pure none) (ho : classOwn (.type "object") name = pure none) (hq : Q none ⟨h, g, d, t, os⟩) :
    wpAny (model prog w) A (typeLookup (.ref a) name) Q E ⟨h, g, d, t, os⟩ := by
  unfold typeLookup
  refine wpAny_bind (wpAny_mroOf_exc hC (wpAny_bind (ml_cons (wpAny_bind ?_))))
  unfold classOwn classData
  refine wpAny_bind (wpAny_bind (wpAny_load hC (wpAny_pure ?_)))
  unfold nsGet
  refine wpAny_bind (wpAny_loadPart hN (wpAny_of_eq hl (wpAny_pure ?_)))
  refine ml_cons (wpAny_bind (wpAny_of_eq ho (wpAny_pure (ml_nil (wpAny_pure hq)))))
/-- x.obj -/
theorem k_gattr {Q : Value → Shared → Prop} {v : Addr} (hC : h.get? a = some (kC a ns T nt t9)) (hN : h.get? ns = some oN) (hl : nsLook (Str.ofString "obj") oN = pure (some (.ref b))) (hla : nsLook (Str.ofString "__getattribute__") oN = pure none) (hlb : nsLook (Str.ofString "__getattr__") oN = pure none) (hb : h.get? b = some (memD a tb)) (hx : h.get? x = some (kInst a dx (.ref v)))
    (hq : ∀ t', Q (.ref v) ⟨h, g, d, t', os⟩) :
    wpAny (model prog w) A (getAttr (.ref x) (Str.ofString "obj") true) Q E ⟨h, g, d, t, os⟩ := by
  unfold getAttr getAttrBy
  refine wpAny_bind (wpAny_mkText (wpAny_holding (wpAny_bind ?_)))
  refine wpAny_typeOf_ref hx (wpAny_bind (lookup_two hC rfl hN hla c_objga ?_))
  show wpAny _ _ (getAttrEveryday _ _ _) _ _ _
  refine wpAny_bind (wpAny_onRaise (wpAny_runValue (codeAny_builtin F.plainObj_entry_getattr_hooked ?_)))
  refine wpAny_bind (wpAny_pure (wpAny_bind (wpAny_typeOf_ref hx (wpAny_bind (wpAny_bind (k_lookup hC hN hl (wpAny_bind ?_)))))))
  unfold Builtin.ObjectAttr.getOf specialOf
  refine wpAny_bind (wpAny_typeOf_ref hb (wpAny_of_eq m_get (wpAny_bind (wpAny_bind ?_))))
  unfold Builtin.ObjectAttr.takesStores specialOf
  refine wpAny_bind (wpAny_bind (wpAny_typeOf_ref hb (wpAny_of_eq m_slots (wpAny_pure (wpAny_pure ?_)))))
  show wpAny _ _ (rule _ >>= fun _ => pure (Builtin.ObjectAttr.Found.bind _ _)) _ _ _
  refine wpAny_bind (wpAny_rule (wpAny_pure ?_))
  show wpAny _ _ (typeLookup (.ref a) _ >>= fun r => Builtin.ObjectAttr.bindWithHook _ _ _ _ _ r) _ _ _
  refine wpAny_bind (k_lookupNone hC hN hlb c_objgat ?_)
  show wpAny _ _ (holding [.ref b] (call (.builtin "member_descriptor.__get__") [.ref b, .ref x, .ref a]) >>= ret) _ _ _
  exact wpAny_bind (wpAny_holding (k_get hC hb hx (wpAny_pure (handed_on rfl (hq _)))))
end
section
variable {w : World} {mg mb : Str → Option Value} {A : Around} {E : Value → Shared → Prop} {s : Shared} {a ns b f1 f2 c1 c2 cell : Addr}
theorem k_attr {i dd v : Addr} {Q : Value → Shared → Prop} (hK : KAll s.heap a ns b f1 f2 c1 c2 cell) (hi : s.heap.get? i = some (kInst a dd (.ref v))) (h : ∀ tk, Q (.ref v) { s with toks := tk }) :
    wpAny (model PySem.Challenge.rw_om0053_01.prog w) A (getAttr (.ref i) (Str.ofString "obj") true) Q E s := by
  obtain ⟨I, B, C, o1, o2, pm, x1, x2, x3, x4, x5, x6, x7, x8, x9, x10⟩ := hK
  exact k_gattr x1 x2 (by kernel_rfl) (by kernel_rfl) (by kernel_rfl) x3 hi h
/-- the body of __init__ -/
theorem k_init {x dx v : Addr} {Q : Value → Shared → Prop} (T : TopRead Mine.myView LS mg mb s.heap) (hK : KAll s.heap a ns b f1 f2 c1 c2 cell)
    (hx : s.heap.get? x = some { cls := .ref a, dict := some dx, data := .plain }) (hd : A.depth ≤ 800)
    (hq : ∀ h' t', (∀ y o, y ≠ x → s.heap.get? y = some o → h'.get? y = some o) → h'.get? x = some (kInst a dx (.ref v)) → Q .none { s with heap := h', toks := t' }) :
    wpAny (model PySem.Challenge.rw_om0053_01.prog w) A (call (.ref f1) [.ref x, .ref v]) Q E s := by
  have hK0 := hK
  obtain ⟨I, B, C, o1, o2, pm, x1, x2, x3, x4, x5, ⟨_, _, _, _, _, _, _, _, _, rfl⟩, x7, x8, x9, x10⟩ := hK
  refine wpAny_call (codeAny_call_function (Nat.lt_of_le_of_lt hd (by decide)) x4 rfl rfl rfl rfl ⟨_, _, _, _, rfl, x5, rfl, rfl⟩ ?_)
  refine wpAny_pure (a := [(Str.ofString "self", Value.ref x), (Str.ofString "obj", Value.ref v)]) ?_
  refine wpAny_newFunctionEnv initScope_ok (locs rfl) (fun h₁ hns hsb => ⟨T.nolimit.fresh _ hsb, codeAny_func (wpAny_execs_cons ?_)⟩) rfl
  have k1 : Kp s.heap h₁ := fun b o e => hsb.extBut b o (Nat.ne_of_lt (Heap.lt_size e)) (Heap.get?_push_of_some _ e)
  refine plainObj_wpAny_Assign_Attribute (wpAny_Name (wpAny_loadName_local rfl rfl hns rfl (wpAny_Name (wpAny_loadName_local rfl rfl hns rfl ?_)))) rfl
  refine k_sattr (k1 _ _ x1) (k1 _ _ x2) (by kernel_rfl) (by kernel_rfl) (k1 _ _ x3) (k1 _ _ hx) fun t' => wpAny_execs_nil ?_
  exact hq _ _ (fun y o hy e => Heap.get?_update_of_ne _ (Ne.symm hy) (k1 _ _ e)) (Heap.get?_update_self _ (k1 _ _ hx) rfl)
theorem k_new {v : Addr} {Q : Value → Shared → Prop} (T : TopRead Mine.myView LS mg mb s.heap) (hK : KAll s.heap a ns b f1 f2 c1 c2 cell) (hd : A.depth ≤ 760)
    (h : ∀ i dd h' t', Kp s.heap h' → s.heap.get? i = none → h'.get? i = some (kInst a dd (.ref v)) → Q (.ref i) { s with heap := h', toks := t' }) :
    wpAny (model PySem.Challenge.rw_om0053_01.prog w) A (call (.ref a) [.ref v]) Q E s := by
  have hK0 := hK
  obtain ⟨I, B, C, o1, o2, pm, x1, x2, x3, x4, x5, x6, x7, x8, x9, x10⟩ := hK
  refine k_call_init x1 x2 (by kernel_rfl) x4 rfl fun h' kp hn hx => ?_
  refine k_init (s := ⟨h', s.gens, s.drawn, s.toks, s.os⟩) (T.keeps kp) (hK0.keep kp) hx (Nat.le_trans (Nat.succ_le_succ hd) (by decide)) fun h'' t' kb hi => ⟨rfl, ?_⟩
  exact h _ _ h'' t' (fun y o e => kb y o (fun z => by rw [z, hn] at e; exact nomatch e) (kp y o e)) hn hi
end
end Mine

end
section
open PySem PySem.W PySem.Calls PyProof.Rows
set_option linter.unusedVariables false
namespace Mine
/-- a sorting tree run by a comparison -/
noncomputable def kRun {α : Type} (c : Nat → Nat → Bool) : KasT α → α
  | .ret a => a
  | .ask i j k => kRun c (k (c i j))
/-- reach: from i to j by the known 'not above' edges, in at most f steps -/
noncomputable def kReach (es : List (Nat × Nat)) : Nat → Nat → Nat → Bool
  | 0, i, j => i == j
  | f + 1, i, j => i == j || es.any fun e => e.1 == i && kReach es f e.2 j
/-- what is asked holds places below n alone; at each end the places are all there, in order -/
noncomputable def kOrd (es : List (Nat × Nat)) (n : Nat) : List Nat → Bool
  | [] => true
  | [_] => true
  | a :: b :: r => kReach es n a b && kOrd es n (b :: r)
/-- sts: pairs (i, j) with key i below key j; es: pairs (i, j) with key i at most key j -/
noncomputable def kBad (sts es : List (Nat × Nat)) (n : Nat) : Bool := sts.any fun e => kReach es n e.2 e.1
noncomputable def kCheck (n : Nat) : List (Nat × Nat) → List (Nat × Nat) → KasT (Array Nat) → Bool
  | sts, es, .ret p => (kOrd es n p.toList && (p.toList.all fun i => i < n) && decide p.toList.Nodup && (List.range n).all fun i => p.toList.contains i) || kBad sts es n
  | sts, es, .ask i j k => i < n && j < n && kCheck n ((i, j) :: sts) ((i, j) :: es) (k true) && kCheck n sts ((j, i) :: es) (k false)
theorem kReach_le {key : Nat → Int} {es : List (Nat × Nat)} (he : ∀ e ∈ es, key e.1 ≤ key e.2) : ∀ (f i j : Nat), kReach es f i j = true → key i ≤ key j
  | 0, i, j, h => by rw [beq_iff_eq.mp (show (i == j) = true from h)]; exact Int.le_refl _
  | f + 1, i, j, h => by
    rw [kReach, Bool.or_eq_true, List.any_eq_true] at h
    rcases h with h | ⟨e, hm, h⟩
    · rw [beq_iff_eq.mp h]; exact Int.le_refl _
    · rw [Bool.and_eq_true] at h
      have h1 := kReach_le he f e.2 j h.2
      have h2 := he e hm
      rw [beq_iff_eq.mp h.1] at h2
      exact Int.le_trans h2 h1
theorem kOrd_ok {key : Nat → Int} {es : List (Nat × Nat)} {n : Nat} (he : ∀ e ∈ es, key e.1 ≤ key e.2) : ∀ (l : List Nat), kOrd es n l = true → l.Pairwise fun i j => key i ≤ key j
  | [], _ => .nil
  | [a], _ => List.pairwise_singleton _ _
  | a :: b :: r, h => by
    rw [kOrd, Bool.and_eq_true] at h
    have ih := kOrd_ok he (b :: r) h.2
    have h1 := kReach_le he _ _ _ h.1
    refine List.pairwise_cons.mpr ⟨fun x hx => ?_, ih⟩
    rcases List.mem_cons.mp hx with rfl | hx
    · exact h1
    · exact Int.le_trans h1 ((List.pairwise_cons.mp ih).1 x hx)
theorem perm_range {n : Nat} {l : List Nat} (h1 : ∀ i ∈ l, i < n) (h2 : l.Nodup) (h3 : ∀ i < n, i ∈ l) : l.Perm (List.range n) :=
  (List.perm_ext_iff_of_nodup h2 List.nodup_range).mpr fun i => ⟨fun h => List.mem_range.mpr (h1 i h), fun h => h3 i (List.mem_range.mp h)⟩
theorem kCheck_ok {key : Nat → Int} {n : Nat} : ∀ (t : KasT (Array Nat)) (sts es : List (Nat × Nat)), (∀ e ∈ sts, key e.1 < key e.2) → (∀ e ∈ es, key e.1 ≤ key e.2) → kCheck n sts es t = true →
    (kRun (fun i j => decide (key i < key j)) t).toList.Perm (List.range n) ∧ (kRun (fun i j => decide (key i < key j)) t).toList.Pairwise fun i j => key i ≤ key j
  | .ret p, sts, es, hs, he, h => by
    rw [kCheck, Bool.or_eq_true] at h
    rcases h with h | h
    · simp only [Bool.and_eq_true, List.all_eq_true, decide_eq_true_eq, beq_iff_eq, List.mem_range, List.contains_iff_mem] at h
      exact ⟨perm_range h.1.1.2 h.1.2 h.2, kOrd_ok he _ h.1.1.1⟩
    · exfalso
      rw [kBad, List.any_eq_true] at h
      obtain ⟨e, hm, h⟩ := h
      have a := hs e hm
      have b := kReach_le he _ _ _ h
      (first | lia | omega)
  | .ask i j k, sts, es, hs, he, h => by
    simp only [kCheck, Bool.and_eq_true] at h
    rw [kRun]
    by_cases hc : key i < key j
    · rw [decide_eq_true hc]
      exact kCheck_ok (k true) _ _ (fun e hm => by rcases List.mem_cons.mp hm with rfl | hm; exact hc; exact hs e hm) (fun e hm => by rcases List.mem_cons.mp hm with rfl | hm; exact Int.le_of_lt hc; exact he e hm) h.1.2
    · rw [decide_eq_false hc]
      exact kCheck_ok (k false) _ _ hs (fun e hm => by rcases List.mem_cons.mp hm with rfl | hm; exact Int.not_lt.mp hc; exact he e hm) h.2
noncomputable def kIn {α : Type} (n : Nat) : KasT α → Prop
  | .ret _ => True
  | .ask i j k => i < n ∧ j < n ∧ kIn n (k true) ∧ kIn n (k false)
theorem kCheck_in {n : Nat} : ∀ (t : KasT (Array Nat)) (sts es : List (Nat × Nat)), kCheck n sts es t = true → kIn n t
  | .ret p, sts, es, h => trivial
  | .ask i j k, sts, es, h => by
    simp only [kCheck, Bool.and_eq_true, decide_eq_true_eq] at h
    exact ⟨h.1.1.1, h.1.1.2, kCheck_in _ _ _ h.1.2, kCheck_in _ _ _ h.2⟩
theorem kas_run {α : Type} {n : Nat} {c : Nat → Nat → Bool} {cmp : Nat → Nat → (Bool → Shared → Prop) → Shared → Prop} {I : Shared → Prop} (step : ∀ i j s C, i < n → j < n → I s → (∀ s', I s' → C (c i j) s') → cmp i j C s) :
    ∀ (t : KasT α) (s : Shared) {Q : α → Shared → Prop}, kIn n t → I s → (∀ s', I s' → Q (kRun c t) s') → t.kasWp cmp Q s
  | .ret a, s, Q, _, hI, hq => hq s hI
  | .ask i j k, s, Q, hw, hI, hq => by
    refine step i j s _ hw.1 hw.2.1 hI fun s' hI' => ?_
    refine kas_run step (k (c i j)) s' ?_ hI' hq
    cases c i j
    · exact hw.2.2.2
    · exact hw.2.2.1
theorem check3 : kCheck 3 [] [] (kas_sort 3) = true := by decide +kernel
theorem check4 : kCheck 4 [] [] (kas_sort 4) = true := by decide +kernel
theorem check5 : kCheck 5 [] [] (kas_sort 5) = true := by decide +kernel
theorem check_n {n : Nat} (h3 : 3 ≤ n) (h5 : n ≤ 5) : kCheck n [] [] (kas_sort n) = true := by
  have : n = 3 ∨ n = 4 ∨ n = 5 := by (first | lia | omega)
  rcases this with rfl | rfl | rfl
  · exact check3
  · exact check4
  · exact check5
end Mine

end
section
open PySem PySem.W PySem.Calls PyProof.Rows
set_option Elab.async false
set_option linter.unusedVariables false
namespace Mine
open PySem.W.X
section
variable {prog : Program} {w : World} {A : Around} {E : Value → Shared → Prop} {s : Shared}
theorem lookup_one {a : Addr} {c : ClassData} {cl : Value} {dd : Option Addr} {sl : Array (Option Value)} {oN : Obj} {name : Str} {v : Value} {Q : Option Value → Shared → Prop}
    (ea : s.heap.get? a = some ⟨cl, dd, .cls c, sl⟩) (hm : c.mro = [.ref a, .type "object"]) (en : s.heap.get? c.ns = some oN) (hl : nsLook name oN = pure (some v)) (h : Q (some v) s) :
    wpAny (model prog w) A (typeLookup (.ref a) name) Q E s := by
  unfold typeLookup
  refine wpAny_bind ?_
  unfold mroOf classData
  refine wpAny_bind (wpAny_bind (wpAny_load ea (wpAny_pure (wpAny_pure ?_))))
  rw [hm]
  refine wpAny_bind (ml_cons (wpAny_bind ?_))
  unfold classOwn classData
  refine wpAny_bind (wpAny_bind (wpAny_load ea (wpAny_pure ?_)))
  unfold nsGet
  refine wpAny_bind (wpAny_loadPart en (wpAny_of_eq hl (wpAny_pure ?_)))
  exact wpAny_pure h
end
section
variable {w : World} {mg mb : Str → Option Value} {A : Around} {E : Value → Shared → Prop} {s : Shared} {a ns b f1 f2 c1 c2 cell : Addr}
theorem ltScope_ok : ∀ x ∈ (kFn 3).2.2.2.1.names, x.2 ≠ .cell := by decide +kernel
theorem keep129 : keepIn (Mine.K2 w.params) (.ref 129) = true := by kernel_rfl
set_option maxHeartbeats 1000000 in
theorem k_ltcall {x y dx dy v1 v2 : Addr} {p1 p2 : Str} {l1 e1 l2 e2 : Int} {Q : Value → Shared → Prop} (X : (Mine.K2 w.params).In s.heap) (T : TopRead Mine.myView LS mg mb s.heap) (hK : KAll s.heap a ns b f1 f2 c1 c2 cell)
    (hx : s.heap.get? x = some (kInst a dx (.ref v1))) (hy : s.heap.get? y = some (kInst a dy (.ref v2))) (ht1 : Told s.heap v1 p1 l1 e1) (ht2 : Told s.heap v2 p2 l2 e2)
    (hh : A.handled = none) (hd : A.depth ≤ 700) (hu : A.units ≤ 5500)
    (hret : ∀ h' tk g', Kp s.heap h' → GOk s.gens g' → Q (.bool (decide (turnOf (rankOf l1 e1) (rankOf l2 e2) < 0))) { s with heap := h', toks := tk, gens := g' }) :
    wpAny (model PySem.Challenge.rw_om0053_01.prog w) A (call (.ref f2) [.ref x, .ref y]) Q E s := by
  have hK0 := hK
  obtain ⟨I, B, C, o1, o2, pm, x1, x2, x3, x4, x5, x6, x7, x8, ⟨_, _, _, _, _, _, _, _, _, rfl⟩, x10⟩ := hK
  refine wpAny_call (codeAny_call_function (Nat.lt_of_le_of_lt hd (by decide)) x7 rfl rfl rfl rfl ⟨_, _, _, _, rfl, x8, rfl, rfl⟩ ?_)
  refine wpAny_pure (a := [(Str.ofString "self", Value.ref x), (Str.ofString "other", Value.ref y)]) ?_
  refine wpAny_newFunctionEnv ltScope_ok (locs rfl) (fun h₁ hns hsb => ⟨T.nolimit.fresh _ hsb, codeAny_func (wpAny_execs_cons (wpAny_Return_some ?_))⟩) rfl
  have k1 : Kp s.heap h₁ := fun b o e => hsb.extBut b o (Nat.ne_of_lt (Heap.lt_size e)) (Heap.get?_push_of_some _ e)
  have X1 := X.keeps k1
  have T1 := T.keeps k1
  have hK1 := hK0.keep k1
  refine wpAny_Compare1 (Call_ ?_)
  refine wpAny_Name (wpAny_loadName_free (c := cell) (v := .ref 129) rfl rfl rfl ⟨_, k1 _ _ x10, rfl⟩ ?_)
  refine callWith_K (K := Mine.K2 w.params) X1 keep129 ?_
  refine args_cons (Attribute_Name_ (wpAny_Name (wpAny_loadName_local rfl rfl hns rfl ?_)))
  refine k_attr hK1 (k1 _ _ hx) fun tk2 => ?_
  refine args_cons (Attribute_Name_ (wpAny_Name (wpAny_loadName_local rfl rfl hns rfl ?_)))
  refine k_attr hK1 (k1 _ _ hy) fun tk3 => ?_
  refine args_nil ⟨X1, ?_⟩
  refine AA_mono 19 (turn_spec w mg mb v1 v2 p1 p2 l1 e1 l2 e2 _ _ _ X1 T1 ⟨ht1.keep k1, ht2.keep k1⟩ fun v h' tk g' kp go po => ?_) hh (by show A.depth + 1 ≤ 780; (first | lia | omega)) (by show A.units + 3 ≤ 6200; (first | lia | omega))
  obtain ⟨ti, rfl⟩ := po
  with_reducible refine wpAny_Constant_int (lt_int ?_)
  exact hret h' _ g' (fun b o e => kp _ _ (k1 _ _ e)) go
theorem bind_f2 {f x : Addr} {o : Obj} {Q : Value × List Value → Shared → Prop} {M : Model} (hf : s.heap.get? f = some o) (hc : o.cls = .type "function") (h : Q (.ref f, [.ref x]) s) : wpAny M A (bindSpecial (.ref f) (.ref x)) Q E s := by
  unfold bindSpecial
  refine wpAny_bind (wpAny_typeOf (T := "function") ⟨_, hf, hc⟩ ?_)
  rw [if_pos (by decide)]
  exact wpAny_pure h
/-- one object below another, as sorted asks it -/
theorem k_keyLt {x y dx dy v1 v2 : Addr} {p1 p2 : Str} {l1 e1 l2 e2 : Int} {Q : Bool → Shared → Prop} (X : (Mine.K2 w.params).In s.heap) (T : TopRead Mine.myView LS mg mb s.heap) (hK : KAll s.heap a ns b f1 f2 c1 c2 cell)
    (hx : s.heap.get? x = some (kInst a dx (.ref v1))) (hy : s.heap.get? y = some (kInst a dy (.ref v2))) (ht1 : Told s.heap v1 p1 l1 e1) (ht2 : Told s.heap v2 p2 l2 e2)
    (hh : A.handled = none) (hd : A.depth ≤ 700) (hu : A.units ≤ 5500)
    (hret : ∀ h' tk g', Kp s.heap h' → GOk s.gens g' → Q (decide (turnOf (rankOf l1 e1) (rankOf l2 e2) < 0)) { s with heap := h', toks := tk, gens := g' }) :
    wpAny (model PySem.Challenge.rw_om0053_01.prog w) A (keyLt' oneType' (.ref x) (.ref y)) Q E s := by
  have hK0 := hK
  obtain ⟨I, B, C, o1, o2, pm, x1, x2, x3, x4, x5, x6, x7, x8, x9, x10⟩ := hK
  rw [keyLt'_oneType, oneLt'_eq]
  simp only [if_true]
  refine wpAny_bind (wpAny_cRoomFor (Nat.lt_of_le_of_lt hu (by decide)) ?_)
  simp only [callSpecialIfBound?, bindSpecialIfBound?, specialOf, typeOf]
  refine wpAny_bind (wpAny_holding (wpAny_bind (wpAny_bind (wpAny_bind (wpAny_bind (wpAny_load hx (wpAny_pure (lookup_one x1 rfl x2 (v := .ref f2) (by kernel_rfl) ?_))))))))
  have fin : wpAny (model PySem.Challenge.rw_om0053_01.prog w) A (call (.ref f2) ([.ref x] ++ [.ref y])) (fun v s' => ∃ bb, v = .bool bb ∧ Q bb s') E s :=
    k_ltcall X T hK0 hx hy ht1 ht2 hh hd hu fun h' tk g' kp go => ⟨_, rfl, hret h' tk g' kp go⟩
  refine wpAny_bind (wpAny_askSetting (wpAny_ite ?_))
  have go : wpAny (model PySem.Challenge.rw_om0053_01.prog w) A (call (.ref f2) ([.ref x] ++ [.ref y]) >>= fun v => pure (some v)) (fun r s' => ∃ bb, r = some (.bool bb) ∧ Q bb s') E s :=
    wpAny_bind (wpAny_mono fin (fun v s' hv => let ⟨bb, e, hq⟩ := hv; wpAny_pure ⟨bb, by rw [e], hq⟩) fun _ _ x => x)
  have fin2 : ∀ r s', (∃ bb, r = some (Value.bool bb) ∧ Q bb s') → wpAny (model PySem.Challenge.rw_om0053_01.prog w) A (match r with
      | some Value.notImplemented => do
        rule "list.sort.lt-declined"
        truthOfDropped (← richCompare CmpOp.Lt (Value.ref x) (Value.ref y))
      | none => do
        rule "list.sort.lt-declined"
        truthOfDropped (← richCompare CmpOp.Lt (Value.ref x) (Value.ref y))
      | some r => truthOfDropped r) Q E s' := fun r s' hr => by
    obtain ⟨bb, rfl, hq⟩ := hr
    exact wpAny_truthy_bool hq
  split
  · exact wpAny_bind (bind_f2 x7 rfl (wpAny_pure (wpAny_mono go fin2 fun _ _ x => x)))
  · exact wpAny_tryCatch (wpAny_bind (bind_f2 x7 rfl (wpAny_pure (wpAny_mono go fin2 fun _ _ x => x))))
end
end Mine

end
section
open PySem PySem.W PySem.Calls PyProof.Rows
set_option Elab.async false
set_option linter.unusedVariables false
namespace Mine
open PySem.W.X
/-- the pieces told: their places and what was heard -/
noncomputable def Tolds (h : Heap) (vs : List Addr) (ps : List (Str × Int × Int)) : Prop := vs.length = ps.length ∧ ∀ (i : Nat) (v : Addr) (p : Str × Int × Int), vs[i]? = some v → ps[i]? = some p → Told h v p.1 p.2.1 p.2.2
theorem Tolds.keep {h h' : Heap} {vs : List Addr} {ps : List (Str × Int × Int)} (x : Tolds h vs ps) (k : Kp h h') : Tolds h' vs ps := ⟨x.1, fun i v p a b => (x.2 i v p a b).keep k⟩
noncomputable def rankAt (ps : List (Str × Int × Int)) (i : Nat) : Int × Int := rankOf (ps.getD i default).2.1 (ps.getD i default).2.2
noncomputable def cmpAt (ps : List (Str × Int × Int)) (i j : Nat) : Bool := decide (turnOf (rankAt ps i) (rankAt ps j) < 0)
/-- objects of the class, one for each piece -/
noncomputable def Insts (h : Heap) (a : Addr) (is vs : List Addr) : Prop := is.length = vs.length ∧ ∀ (i : Nat) (x v : Addr), is[i]? = some x → vs[i]? = some v → ∃ dd, h.get? x = some (kInst a dd (.ref v))
theorem kInst_cls {a dd : Addr} {v : Value} : (kInst a dd v).cls ≠ .type "list" := fun z => nomatch z
theorem fits64 {n : Nat} (h : n < 64) : n ≤ sizeLine := by have : 64 ≤ sizeLine := by decide
                                                           (first | lia | omega)
section
variable {w : World} {mg mb : Str → Option Value} {A : Around} {E : Value → Shared → Prop} {s : Shared} {a ns b f1 f2 c1 c2 cell : Addr}
theorem k_tail {D kS : Addr} {e e1 : Nat} {kA out : Array Value} {st : SortSt} {P : PySem.Fin → Shared → Prop} {h0 : Heap} (hk : Kp h0 s.heap) (hkS : s.heap.get? kS = some (seqObj "list" kA e)) (hD : s.heap.get? D = some (seqObj "list" #[] e1)) (hne : kS ≠ D)
    (h1 : h0.get? kS = none) (h2 : h0.get? D = none) (hz : kA.size < 64) (hz2 : out.size < 64) (hout : (arrOf st).map (·.2) = out) (hf : failedOf st = none)
    (h : ∀ h' n, Kp h0 h' → h'.get? D = some (seqObj "list" out n) → P (.done (.ret .none)) { s with heap := h' }) :
    wpAny (model PySem.Challenge.rw_om0053_01.prog w) A (ksk_tail D false e1 (.ref kS) st) P E s := by
  unfold ksk_tail
  have s1 := Heap.SameBut.update s.heap kS (Obj.mapSeq fun _ => (#[] : Array Value))
  have hD1 := (s1.2 D (Ne.symm hne)).trans hD
  have s2 := Heap.SameBut.update (s.heap.update kS (Obj.mapSeq fun _ => (#[] : Array Value))) D (Obj.mapSeq fun _ => out)
  refine wpAny_bind (listUpdate_at hkS rfl ?_ (fits64 hz) (Nat.zero_le _))
  refine wpAny_bind (wpAny_letGo (wpAny_bind (seqEpoch_at hD1 rfl ?_)))
  rw [hout]
  refine wpAny_bind (listUpdate_at hD1 rfl ?_ (Nat.zero_le _) (Nat.le_succ_of_le (fits64 hz2)))
  rw [hf]
  simp only [bne_self_eq_false, Bool.false_eq_true, if_false]
  refine wpAny_pure (h _ _ (fun x o ex => ?_) (get?_update_seq hD1 fun _ => out))
  have x1 : x ≠ kS := fun z => by rw [z, h1] at ex; cases ex
  have x2 : x ≠ D := fun z => by rw [z, h2] at ex; cases ex
  exact (s2.2 x x2).trans ((s1.2 x x1).trans (hk _ _ ex))
theorem k_types {l : List Addr} {h : Heap} {M : Model} (hl : ∀ x ∈ l, ∃ dd v, h.get? x = some (kInst a dd v)) : ∀ v ∈ l.map Value.ref, Looks M h (typeOf v) (.ref a) := by
  intro v hv
  obtain ⟨x, hx, rfl⟩ := List.mem_map.mp hv
  obtain ⟨dd, v, e⟩ := hl x hx
  exact (Looks.ld (part := none) e).andThen .now
theorem k_sortrun {D kS : Addr} {e e1 : Nat} {vs is : List Addr} {ps : List (Str × Int × Int)} {P : PySem.Fin → Shared → Prop} {h0 : Heap} (X : (Mine.K2 w.params).In h0) (T : TopRead Mine.myView LS mg mb h0) (hK : KAll h0 a ns b f1 f2 c1 c2 cell)
    (hT : Tolds h0 vs ps) (hI : Insts s.heap a is vs) (hh : A.handled = none) (hd : A.depth ≤ 700) (hu : A.units ≤ 5500) (h3 : 3 ≤ vs.length) (h5 : vs.length ≤ 5)
    {key : Nat → Int} (hkey : ∀ i j, i < vs.length → j < vs.length → cmpAt ps i j = decide (key i < key j)) (hk : Kp h0 s.heap) (hkS : s.heap.get? kS = some (seqObj "list" (is.map Value.ref).toArray e)) (hD : s.heap.get? D = some (seqObj "list" #[] e1)) (hne : kS ≠ D) (h1 : h0.get? kS = none) (h2 : h0.get? D = none)
    (h : ∀ h' n tk g', Kp h0 h' → GOk s.gens g' → h'.get? D = some (seqObj "list" (((kRun (fun i j => decide (key i < key j)) (kas_sort vs.length)).toList.map fun i => Value.ref (vs.getD i 0))).toArray n) → P (.done (.ret .none)) { s with heap := h', toks := tk, gens := g' }) :
    wpAny (model PySem.Challenge.rw_om0053_01.prog w) A (ksk_end D false (vs.map Value.ref).toArray e1 (.ref kS) (is.map Value.ref).toArray) P E s := by
  have hlen := hI.1
  unfold ksk_end
  have hn2 : ¬ (vs.map Value.ref).toArray.size < 2 := by simp only [List.size_toArray, List.length_map]; (first | lia | omega)
  refine wpAny_ite_false rfl ?_
  rw [if_neg hn2, if_neg hn2]
  refine wpAny_bind (kas_kind (T := .ref a) (by rw [List.length_map]; (first | lia | omega)) (k_types fun x hx => ?_) rfl (beq_self_eq_true _) ?_)
  · obtain ⟨i, hi⟩ := List.getElem?_of_mem hx
    have hi' : i < vs.length := by have := (List.getElem?_eq_some_iff.mp hi).1; (first | lia | omega)
    obtain ⟨dd, e⟩ := hI.2 i x _ hi (List.getElem?_eq_getElem hi')
    exact ⟨dd, _, e⟩
  have hzip : ((is.map Value.ref).toArray.zip (vs.map Value.ref).toArray).size = vs.length := by simp [hlen]
  have est : SortSt.mk' oneType' ((is.map Value.ref).toArray.zip (vs.map Value.ref).toArray) #[] 7 none = kas_st oneType' ((is.map Value.ref).toArray.zip (vs.map Value.ref).toArray) (List.toArray (List.range vs.length)) := by
    have e := kas_range ((is.map Value.ref).toArray.zip (vs.map Value.ref).toArray)
    rw [hzip] at e
    unfold kas_st
    rw [e]
  have item : ∀ i, i < vs.length → kas_item ((is.map Value.ref).toArray.zip (vs.map Value.ref).toArray) i = (.ref (is.getD i 0), .ref (vs.getD i 0)) := fun i hi => by
    have hi2 : i < is.length := by (first | lia | omega)
    simp [kas_item, Array.getD, hi, hi2]
    rw [dif_pos (by (first | lia | omega))]
  have ask : (kas_sort vs.length).kasWp (kas_cmp PySem.Challenge.rw_om0053_01.prog w A oneType' ((is.map Value.ref).toArray.zip (vs.map Value.ref).toArray)) (fun p s' => p = kRun (fun i j => decide (key i < key j)) (kas_sort vs.length) ∧ ∃ h' tk g', s' = { s with heap := h', toks := tk, gens := g' } ∧ Kp s.heap h' ∧ GOk s.gens g') s := by
    refine kas_run (n := vs.length) (c := fun i j => decide (key i < key j)) (I := fun s' => ∃ h' tk g', s' = { s with heap := h', toks := tk, gens := g' } ∧ Kp s.heap h' ∧ GOk s.gens g') ?_ _ s (kCheck_in _ _ _ (check_n h3 h5)) ⟨s.heap, s.toks, s.gens, rfl, fun _ _ q => q, GOk.refl _⟩ fun s' hs' => ⟨rfl, hs'⟩
    rintro i j s' C hi hj ⟨h', tk, g', rfl, kp, go⟩ hC
    unfold kas_cmp
    rw [item i hi, item j hj]
    have get : ∀ i, i < vs.length → is[i]? = some (is.getD i 0) ∧ vs[i]? = some (vs.getD i 0) ∧ ps[i]? = some (ps.getD i default) := fun i hi => by
      have hi2 : i < is.length := by (first | lia | omega)
      have hi3 : i < ps.length := by rw [← hT.1]; exact hi
      simp [hi, hi2, hi3]
    obtain ⟨gi1, gi2, gi3⟩ := get i hi
    obtain ⟨gj1, gj2, gj3⟩ := get j hj
    obtain ⟨di, ei⟩ := hI.2 _ _ _ gi1 gi2
    obtain ⟨dj, ej⟩ := hI.2 _ _ _ gj1 gj2
    have k0 : Kp h0 h' := fun x o q => kp _ _ (hk _ _ q)
    have hc := hkey i j hi hj
    refine k_keyLt (s := { s with heap := h', toks := tk, gens := g' }) (X.keeps k0) (T.keeps k0) (hK.keep k0) (kp _ _ ei) (kp _ _ ej) ((hT.2 _ _ _ gi2 gi3).keep k0) ((hT.2 _ _ _ gj2 gj3).keep k0) hh hd hu
      fun h'' tk' g'' kp' go' => ?_
    have := hC { s with heap := h'', toks := tk', gens := g'' } ⟨h'', tk', g'', rfl, fun x o q => kp' _ _ (kp _ _ q), go.trans go'⟩
    rw [← hc] at this
    exact this
  have run := kas_runs (E := E) (Q := fun _ st' s' => ∃ p : Array Nat, p.size = vs.length ∧ arrOf st' = p.map (kas_item ((is.map Value.ref).toArray.zip (vs.map Value.ref).toArray)) ∧ failedOf st' = none ∧ p = kRun (fun i j => decide (key i < key j)) (kas_sort vs.length) ∧ ∃ h' tk g', s' = { s with heap := h', toks := tk, gens := g' } ∧ Kp s.heap h' ∧ GOk s.gens g')
    (by (first | lia | omega)) (by (first | lia | omega)) (fun p' st' s' a1 a2 a3 a4 => ⟨p', a1, a2, a3, a4⟩) ask
  rw [← est] at run
  refine wpAny_bind (wpAny_mono run ?_ fun _ _ e => e)
  rintro ⟨⟨⟩, st'⟩ s' ⟨p, hp, har, hf, rfl, h', tk, g', rfl, kp, go⟩
  have hin : ∀ i ∈ (kRun (fun i j => decide (key i < key j)) (kas_sort vs.length)).toList, i < vs.length := fun i hi => List.mem_range.mp ((kCheck_ok (key := key) _ [] [] (fun _ h => nomatch h) (fun _ h => nomatch h) (check_n h3 h5)).1.mem_iff.mp hi)
  refine k_tail (s := { s with heap := h', toks := tk, gens := g' }) (h0 := h0) (fun x o q => kp _ _ (hk _ _ q)) (kp _ _ hkS) (kp _ _ hD) hne h1 h2 (by simp only [List.size_toArray, List.length_map]; (first | lia | omega)) (by simp only [List.size_toArray, List.length_map, Array.length_toList]; (first | lia | omega)) ?_ hf fun h'' n kp' e' => h h'' n tk g' kp' go e'
  apply Array.toList_inj.mp
  rw [har, Array.map_map, Array.toList_map]
  refine List.map_congr_left fun i hi => ?_
  show (kas_item _ i).2 = _
  rw [item i (hin i hi)]
theorem k_rest {D kS : Addr} {e1 : Nat} {vs : List Addr} {ps : List (Str × Int × Int)} {P : PySem.Fin → Shared → Prop} {h0 : Heap} (X : (Mine.K2 w.params).In h0) (T : TopRead Mine.myView LS mg mb h0) (hK : KAll h0 a ns b f1 f2 c1 c2 cell)
    (hT : Tolds h0 vs ps) (hh : A.handled = none) (hd : A.depth ≤ 700) (hu : A.units ≤ 5500) (h3 : 3 ≤ vs.length) (h5 : vs.length ≤ 5)
    {key : Nat → Int} (hkey : ∀ i j, i < vs.length → j < vs.length → cmpAt ps i j = decide (key i < key j)) (hk : Kp h0 s.heap) (hkS : s.heap.get? kS = some (seqObj "list" #[] 0)) (hD : s.heap.get? D = some (seqObj "list" #[] e1)) (hne : kS ≠ D) (h1 : h0.get? kS = none) (h2 : h0.get? D = none)
    (h : ∀ h' n tk g', Kp h0 h' → GOk s.gens g' → h'.get? D = some (seqObj "list" (((kRun (fun i j => decide (key i < key j)) (kas_sort vs.length)).toList.map fun i => Value.ref (vs.getD i 0))).toArray n) → P (.done (.ret .none)) { s with heap := h', toks := tk, gens := g' }) :
    wpAny (model PySem.Challenge.rw_om0053_01.prog w) A (ksk_rest D (.ref a) false (vs.map Value.ref).toArray e1 (.ref kS)) P E s := by
  unfold ksk_rest
  refine wpAny_bind (wpAny_rule ?_)
  rw [List.forIn_toArray]
  refine wpAny_bind (ksk_fold (fun i s' => ∃ h' tk is e, s' = { s with heap := h', toks := tk } ∧ Kp h0 h' ∧ h'.get? D = some (seqObj "list" #[] e1) ∧ h'.get? kS = some (seqObj "list" (is.map Value.ref).toArray e) ∧ Insts h' a is (vs.take i)) (vs.map Value.ref) 0 s
    ⟨s.heap, s.toks, [], 0, rfl, hk, hD, hkS, by simp [Insts]⟩ ?step ?done)
  case step =>
    rintro j x s' hx ⟨h', tk, is, e, rfl, kp, eD, eS, hI⟩
    simp only [Nat.zero_add] at hI ⊢
    rw [List.getElem?_map] at hx
    obtain ⟨v, hv, rfl⟩ := Option.map_eq_some_iff.mp hx
    have hj : j < vs.length := (List.getElem?_eq_some_iff.mp hv).1
    have hl : is.length = j := by have := hI.1; rw [List.length_take] at this; (first | lia | omega)
    refine wpAny_bind (wpAny_attempt (k_new (s := { s with heap := h', toks := tk }) (T.keeps kp) (hK.keep kp) (by (first | lia | omega)) fun i dd h'' t' kp' hn hi => ?_))
    have eS' := kp' _ _ eS
    have eD' := kp' _ _ eD
    have s1 := Heap.SameBut.update h'' kS (Obj.mapSeq (·.push (.ref i)))
    obtain ⟨c2, hc2⟩ : ∃ c2, (h''.update kS (Obj.mapSeq (·.push (.ref i)))).get? kS = some (seqObj "list" ((is.map Value.ref).toArray.push (.ref i)) c2) := ⟨_, get?_update_seq eS' (·.push (.ref i))⟩
    have hz : ((is.map Value.ref).toArray.push (Value.ref i)).size < 64 := by rw [Array.size_push, List.size_toArray, List.length_map]; (first | lia | omega)
    refine wpAny_bind (listUpdate_at eS' rfl ?_ (fits64 (by rw [List.size_toArray, List.length_map]; (first | lia | omega))) (Nat.le_succ_of_le (fits64 hz)))
    have notS : ∀ (x : Addr) (o : Obj), o.cls ≠ .type "list" → h''.get? x = some o → x ≠ kS := fun x o hc q z => by rw [z, eS'] at q; injection q with q; exact hc (by rw [← q])
    refine wpAny_pure ⟨rfl, _, _, is ++ [i], c2, rfl, fun x o q => ?_, ?_, ?_, ?_⟩
    · exact (s1.2 x (fun z => by rw [z, h1] at q; cases q)).trans (kp' _ _ (kp _ _ q))
    · exact (s1.2 D (Ne.symm hne)).trans eD'
    · rw [hc2]; simp
    · refine ⟨by simp [hl]; (first | lia | omega), fun m x u hm hu' => ?_⟩
      by_cases hmj : m < j
      · rw [List.getElem?_append_left (by (first | lia | omega))] at hm
        rw [List.getElem?_take_of_lt (by (first | lia | omega))] at hu'
        obtain ⟨dd', q⟩ := hI.2 m x u hm (by rw [List.getElem?_take_of_lt hmj]; exact hu')
        have q' := kp' _ _ q
        exact ⟨dd', (s1.2 x (notS _ _ kInst_cls q')).trans q'⟩
      · have hmj' : m = j := by have := (List.getElem?_eq_some_iff.mp hm).1; rw [List.length_append, hl] at this; simp at this; (first | lia | omega)
        subst hmj'
        rw [List.getElem?_append_right (by (first | lia | omega)), hl, Nat.sub_self] at hm
        rw [List.getElem?_take_of_lt (by (first | lia | omega)), hv] at hu'
        cases hu'
        have : i = x := by simpa using hm
        subst this
        exact ⟨dd, (s1.2 i (notS _ _ kInst_cls hi)).trans hi⟩
  case done =>
    rintro s' ⟨h', tk, is, e, rfl, kp, eD, eS, hI⟩
    rw [Nat.zero_add, List.length_map, List.take_length] at hI
    refine wpAny_bind (listItems_at eS rfl ?_)
    exact k_sortrun (s := { s with heap := h', toks := tk }) X T hK hT hI hh hd hu h3 h5 hkey kp eS eD hne h1 h2 h
theorem k_listsort {D : Addr} {n0 : Nat} {vs : List Addr} {ps : List (Str × Int × Int)} {P : PySem.Fin → Shared → Prop} {h0 : Heap} (X : (Mine.K2 w.params).In h0) (T : TopRead Mine.myView LS mg mb h0) (hK : KAll h0 a ns b f1 f2 c1 c2 cell)
    (hT : Tolds h0 vs ps) (hh : A.handled = none) (hd : A.depth ≤ 700) (hu : A.units ≤ 5500) (h3 : 3 ≤ vs.length) (h5 : vs.length ≤ 5)
    {key : Nat → Int} (hkey : ∀ i j, i < vs.length → j < vs.length → cmpAt ps i j = decide (key i < key j)) (hk : Kp h0 s.heap) (hD : s.heap.get? D = some (seqObj "list" (vs.map Value.ref).toArray n0)) (h2 : h0.get? D = none)
    (h : ∀ h' n tk g', Kp h0 h' → GOk s.gens g' → h'.get? D = some (seqObj "list" (((kRun (fun i j => decide (key i < key j)) (kas_sort vs.length)).toList.map fun i => Value.ref (vs.getD i 0))).toArray n) → P (.done (.ret .none)) { s with heap := h', toks := tk, gens := g' }) :
    wpAny (model PySem.Challenge.rw_om0053_01.prog w) A (Builtin.«list.sort» ⟨[.ref D], [(Str.ofString "key", .ref a)]⟩) P E s := by
  rw [ksk_t1]
  have hlt : D < s.heap.objs.size := Heap.lt_size hD
  have s1 := Heap.SameBut.update s.heap D (Obj.mapSeq fun _ => (#[] : Array Value))
  obtain ⟨e1, ho1⟩ : ∃ e1, (s.heap.update D (Obj.mapSeq fun _ => (#[] : Array Value))).get? D = some (seqObj "list" #[] e1) := ⟨_, get?_update_seq hD fun _ => #[]⟩
  have hz : (vs.map Value.ref).toArray.size < 64 := by rw [List.size_toArray, List.length_map]; (first | lia | omega)
  unfold ksk_tree
  refine wpAny_bind (listItems_at hD rfl ?_)
  refine wpAny_bind (listUpdate_at hD rfl ?_ (fits64 hz) (Nat.zero_le _))
  refine wpAny_bind (seqEpoch_at ho1 rfl ?_)
  refine wpAny_bind (wpAny_newTuple ?_ (by rw [Array.length_toList]; exact fits64 hz))
  refine wpAny_bind (wpAny_newList ?_ (Nat.zero_le _))
  refine wpAny_holding ?_
  generalize hh2 : (s.heap.update D (Obj.mapSeq fun _ => (#[] : Array Value))).push { cls := .type "tuple", data := .seq (vs.map Value.ref).toArray.toList.toArray } = hp2
  have hsz : s.heap.objs.size ≤ hp2.objs.size := by rw [← hh2, Heap.size_push, Heap.size_update]; exact Nat.le_succ _
  have e2 : hp2.get? D = some (seqObj "list" #[] e1) := by rw [← hh2]; exact Heap.get?_push_of_some _ ho1
  have k2 : Kp h0 hp2 := fun x o q => by rw [← hh2]; exact Heap.get?_push_of_some _ ((s1.2 x (fun z => by rw [z, h2] at q; cases q)).trans (hk _ _ q))
  refine k_rest (s := { s with heap := hp2.push { cls := .type "list", data := .seq ([] : List Value).toArray } }) (kS := hp2.objs.size) X T hK hT hh hd hu h3 h5 hkey (fun x o q => Heap.get?_push_of_some _ (k2 _ _ q)) (Heap.get?_push_size _ rfl) (Heap.get?_push_of_some _ e2) (Nat.ne_of_gt (Nat.lt_of_lt_of_le hlt hsz)) ?_ h2 h
  cases q : h0.get? hp2.objs.size with
  | none => rfl
  | some o => exact absurd (Heap.lt_size (k2 _ _ q)) (Nat.lt_irrefl _)
/-- sorted(told, key=K) -/
theorem k_sorted {l : Addr} {vs : List Addr} {ps : List (Str × Int × Int)} {Q : Value → Shared → Prop} (X : (Mine.K2 w.params).In s.heap) (T : TopRead Mine.myView LS mg mb s.heap) (hK : KAll s.heap a ns b f1 f2 c1 c2 cell)
    (hT : Tolds s.heap vs ps) (hl : s.heap.IsList l (vs.map Value.ref).toArray) (hh : A.handled = none) (hd : A.depth ≤ 690) (hu : A.units ≤ 5490) (h3 : 3 ≤ vs.length) (h5 : vs.length ≤ 5)
    {key : Nat → Int} (hkey : ∀ i j, i < vs.length → j < vs.length → cmpAt ps i j = decide (key i < key j))
    (h : ∀ D h' n tk g', Kp s.heap h' → GOk s.gens g' → s.heap.get? D = none → h'.get? D = some (seqObj "list" (((kRun (fun i j => decide (key i < key j)) (kas_sort vs.length)).toList.map fun i => Value.ref (vs.getD i 0))).toArray n) → Q (.ref D) { s with heap := h', toks := tk, gens := g' }) :
    wpAny (model PySem.Challenge.rw_om0053_01.prog w) A (call (.builtin "sorted") [.ref l] [(Str.ofString "key", .ref a)]) Q E s := by
  refine call_function_entry_kw kind_sorted plain_sorted entry_sorted (ksk_s1 _ _) ?_
  unfold Builtin.«sorted»
  refine wpAny_bind (m := checkCount "sorted" 1 1 _) (wpAny_pure ?_)
  have hz : (vs.map Value.ref).length < 64 := by rw [List.length_map]; (first | lia | omega)
  refine wpAny_bind (collect_list hl ?_ (fits64 hz))
  refine wpAny_bind (wpAny_newList ?_ (fits64 hz))
  generalize hh1 : (s.heap.push (seqObj "list" #[] 0)).update s.heap.objs.size (Obj.mapSeq (· ++ (vs.map Value.ref).toArray)) = hp1
  have k1 : Kp s.heap hp1 := fun x o q => by
    have hlt : x < s.heap.objs.size := Heap.lt_size q
    rw [← hh1, Heap.get?_update_ne _ _ _ _ (Nat.ne_of_lt hlt)]
    exact Heap.get?_push_of_some _ q
  have hn : s.heap.get? hp1.objs.size = none := by
    cases q : s.heap.get? hp1.objs.size with
    | none => rfl
    | some o => exact absurd (Heap.lt_size (k1 _ _ q)) (Nat.lt_irrefl _)
  have eD : (hp1.push { cls := .type "list", data := .seq (vs.map Value.ref).toArray }).get? hp1.objs.size = some (seqObj "list" (vs.map Value.ref).toArray 0) := Heap.get?_push_size _ rfl
  show wpAny _ _ _ _ _ { s with heap := hp1.push { cls := .type "list", data := .seq (vs.map Value.ref).toArray } }
  generalize hp1.objs.size = D at hn eD ⊢
  refine wpAny_bind (wpAny_holding (wpAny_call_entry_kw slot_list_sort ⟨_, eD, rfl⟩ entry_list_sort ?body (ksk_l1 _ _)))
  case body =>
    refine k_listsort (s := { s with heap := hp1.push { cls := .type "list", data := .seq (vs.map Value.ref).toArray } }) (h0 := s.heap) X T hK hT hh (by show A.depth ≤ 700; (first | lia | omega)) (by show A.units + 1 + 1 ≤ 5500; (first | lia | omega)) h3 h5 hkey (fun x o q => Heap.get?_push_of_some _ (k1 _ _ q)) eD hn fun h' n tk g' kp go e => ⟨_, rfl, ?_⟩
    exact wpAny_pure ⟨_, rfl, h D h' n tk g' kp go hn e⟩
end
end Mine

end
section
open PySem PySem.W PySem.Calls PyProof.Rows
set_option Elab.async false
set_option linter.unusedVariables false
namespace Mine
open PySem.W.X
/-- what a loop's turn leaves -/
noncomputable def StepG (h₀ : Heap) (L : Addr) (gn news : List (Addr × Obj)) (J' : (Str → Option Value) → List (Addr × Obj) → Prop) (s₁ : Shared) (Qr : Value → Shared → Prop) (f : Flow) (s₃ : Shared) : Prop := match f with
  | .next | .cont => ∃ h' tk m' news', s₃ = { s₁ with heap := h', toks := tk } ∧ Fr h₀ L h' m' ∧ News h₀ L h' (news' ++ gn) ∧ news'.map (·.1) = news.map (·.1) ∧ J' m' news'
  | .ret v => Qr v s₃
  | .brk => False
theorem StepG.next {h₀ : Heap} {L : Addr} {gn news news' : List (Addr × Obj)} {J' : (Str → Option Value) → List (Addr × Obj) → Prop} {s₁ : Shared} {Qr : Value → Shared → Prop} {h' : Heap} {tk : Nat} {m' : Str → Option Value}
    (F : Fr h₀ L h' m') (N : News h₀ L h' (news' ++ gn)) (hm : news'.map (·.1) = news.map (·.1)) (hJ : J' m' news') : StepG h₀ L gn news J' s₁ Qr .next { s₁ with heap := h', toks := tk } := ⟨h', tk, m', news', rfl, F, N, hm, hJ⟩
section
variable {M : Model} {A : Around} {E : Value → Shared → Prop} {s : Shared}
theorem letGo_gen {elts : List Expr} {x1 : Nat} {pos : Pos} {a g : Nat} {v : Addr} {Q : Unit → Shared → Prop} (hg : s.heap.IsGen a g) (h : Q () s) : wpAny M A (letOwnedTupleGo (.Tuple elts x1 pos) (.ref a) (.ref v)) Q E s := by
  obtain ⟨o, nm, qn, ho, hc, hd, _⟩ := hg
  unfold letOwnedTupleGo
  refine wpAny_bind (wpAny_load ho ?_)
  rw [hc, hd]
  refine wpAny_ite_false (decide_eq_false ?_) (wpAny_pure h)
  rw [show (["enumerate", "zip", "dict_itemiterator", "dict_reverseitemiterator", "odict_iterator", "itertools.zip_longest", "itertools.pairwise"].contains "generator") = false from by decide]
  simp
end
theorem len3 {α : Type} {l : List α} (h : l.length = 3) : ∃ a b c, l = [a, b, c] := by
  match l, h with
  | [a, b, c], _ => exact ⟨a, b, c, rfl⟩
/-- a generator object just made, with what it will give -/
noncomputable def MadeGen (w : World) (mg mb : Str → Option Value) (its : List (Int × Str)) (s : Shared) (v : Value) (s₁ : Shared) : Prop :=
  ∃ a own g h1 tk g', v = .ref a ∧ s₁ = { s with heap := h1, toks := tk, gens := g' } ∧ GenSt w mg mb a g own its s₁ ∧ Kp s.heap h1 ∧ GOk s.gens g' ∧ s.heap.get? a = none ∧ (∀ p ∈ own, s.heap.get? p.1 = none) ∧ a ∉ own.map (·.1)
set_option maxHeartbeats 1000000 in
theorem for_gen {w : World} {mg mb : Str → Option Value} {A : Around} {E : Value → Shared → Prop} {s : Shared} {h₀ : Heap} {cn : Str} {cs : Scope} {L f : Addr} {ccd : Value} {m : Str → Option Value} {news : List (Addr × Obj)}
    {xi xv : Str} {pi pv pt pos : Pos} {x1 : Nat} {iter : Expr} {body : List Stmt} {Q : Flow → Shared → Prop} {its : List (Int × Str)}
    (J : List (Int × Str) → (Str → Option Value) → List (Addr × Obj) → Prop)
    (F : Fr h₀ L s.heap m) (N : News h₀ L s.heap news) (X : (Mine.K2 w.params).In h₀) (T : TopRead Mine.myView LS mg mb h₀)
    (hh : A.handled = none) (hd : A.depth ≤ 900) (hu : A.units + 1 ≤ 8000) (hk : cs.kind = .function)
    (hxi : (envOf cn cs L f ccd).kindOf xi = some .local) (hxv : (envOf cn cs L f ccd).kindOf xv = some .local)
    (hit : wpAny (model PySem.Challenge.rw_om0053_01.prog w) A (eval iter (envOf cn cs L f ccd)) (MadeGen w mg mb its s) E s) (h0 : J its m news)
    (step : ∀ i c r m₁ news₁ (s₁ : Shared) p1 p2 p3 pa ti tc E', J ((i, c) :: r) m₁ news₁ → news₁.map (·.1) = news.map (·.1) → (∃ h1 tk g', s₁ = { s with heap := h1, toks := tk, gens := g' } ∧ GOk s.gens g') →
      Fr h₀ L s₁.heap (fun y => if y = xv then some (.str c tc) else if y = xi then some (.int i ti) else m₁ y) → News h₀ L s₁.heap (news₁ ++ [p1, p2, p3, pa]) → (∀ q ∈ news₁, q.1 ≠ p1.1 ∧ q.1 ≠ p2.1 ∧ q.1 ≠ p3.1 ∧ q.1 ≠ pa.1) →
      wpAny (model PySem.Challenge.rw_om0053_01.prog w) A (execs body (envOf cn cs L f ccd)) (StepG h₀ L [p1, p2, p3, pa] news₁ (J r) s₁ (fun v s₃ => Q (.ret v) s₃)) E' s₁)
    (hQ : ∀ h' tk g' m' news', Fr h₀ L h' m' → News h₀ L h' news' → news'.map (·.1) = news.map (·.1) → J [] m' news' → GOk s.gens g' → Q .next { s with heap := h', toks := tk, gens := g' })
    (hs : ∀ x, foldedSetIterable iter (envOf cn cs L f ccd) x = pure x := by intro _; rfl) :
    wpAny (model PySem.Challenge.rw_om0053_01.prog w) A (exec (.For (.Tuple [.Name xi pi, .Name xv pv] x1 pt) iter body [] pos) (envOf cn cs L f ccd)) Q E s := by
  refine wpAny_For (wpAny_mono hit (fun v s₁ hv => ?_) fun _ _ x => x) hs
  obtain ⟨a, own, g, h1, tk, g', rfl, rfl, G, k1, go1, ha, hown, hao⟩ := hv
  refine wpAny_pyIter_gen G.isgen ?_
  have aL : a ≠ L := fun z => by obtain ⟨_, _, _, e, _⟩ := F.ns; rw [← z, ha] at e; cases e
  have oldN : ∀ {b : Addr}, s.heap.get? b = none → h₀.get? b = none ∧ b ≠ L ∧ ∀ q ∈ news, q.1 ≠ b := fun {b} hb => by
    refine ⟨?_, fun z => ?_, fun q hq z => ?_⟩
    · cases e : h₀.get? b with
      | none => rfl
      | some o => rw [F.keep _ _ e] at hb; cases hb
    · obtain ⟨_, _, _, e, _⟩ := F.ns; rw [← z, hb] at e; cases e
    · rw [← z, (N q hq).1] at hb; cases hb
  have ha0 := oldN ha
  refine codeAny_forLoop_any
    (fun n s' => ∃ h' tk g' own items m' news', s' = { s with heap := h', toks := tk, gens := g' } ∧ items.length = n ∧ GenSt w mg mb a g own items s' ∧ GOk s.gens g' ∧ Kp h₀ h' ∧ a ∉ own.map (·.1) ∧ (∀ p ∈ own, h₀.get? p.1 = none ∧ p.1 ≠ L ∧ ∀ q ∈ news', q.1 ≠ p.1) ∧
      Fr h₀ L h' m' ∧ News h₀ L h' news' ∧ news'.map (·.1) = news.map (·.1) ∧ J items m' news') ?_ its.length
    ⟨h1, tk, g', own, its, m, news, rfl, rfl, G, go1, fun b o e => k1 _ _ (F.keep _ _ e), hao, fun p hp => oldN (hown p hp), F.keptAll k1, N.grown k1, rfl, h0⟩
  rintro n s' ⟨h', tk', g1, own', items, m', news', rfl, hn, G', go', kp', hao', ho', F', N', hm', hJ⟩
  have X' := X.keeps kp'
  have T' := T.keeps kp'
  have base : ∀ {h'' : Heap}, (∀ b o, b ∉ own'.map (·.1) → h'.get? b = some o → h''.get? b = some o) → Fr h₀ L h'' m' ∧ News h₀ L h'' news' := fun {h''} hkk => by
    have off : ∀ b, (∀ p ∈ own', p.1 ≠ b) → b ∉ own'.map (·.1) := fun b hb hm => by
      obtain ⟨p, hp, e⟩ := List.mem_map.mp hm
      exact hb p hp e
    refine ⟨⟨?_, fun b o e => hkk b o (off b fun p hp z => by have := (ho' p hp).1; rw [z, e] at this; cases this) (F'.keep b o e), F'.above⟩, fun q hq => ⟨hkk _ _ (off _ fun p hp z => (ho' p hp).2.2 q hq z.symm) (N' q hq).1, (N' q hq).2⟩⟩
    obtain ⟨o, es, ep, e, r⟩ := F'.ns
    exact ⟨o, es, ep, hkk _ _ (off _ fun p hp => (ho' p hp).2.1) e, r⟩
  refine next_gen G' X' T' hh hd hu (fun hi h'' tk'' g2 go2 hkk => ?_) (fun i c r hi h'' tk'' g2 own'' Ta t1 t2 go2 hkk hTa eTa hl3 hTo hoo hoh G'' => ?_) hao'
  · subst hi
    obtain ⟨F2, N2⟩ := base hkk
    exact wpAny_execs_nil (hQ h'' tk'' g2 m' news' F2 N2 hm' hJ (go'.trans go2))
  · subst hi
    obtain ⟨F2, N2⟩ := base hkk
    refine letGo_gen G''.isgen ?_
    refine assign2 hh F2.ns ⟨_, eTa, rfl, 0, rfl⟩ hxi hxv (by show (cs.kind == .class || (cs.kind == .module && _)) = false; rw [hk]; rfl) fun h3 tk3 hn3 hk3 => ?_
    have hk3' : ∀ b o, b ≠ L → h''.get? b = some o → h3.get? b = some o := hk3
    have F3 : Fr h₀ L h3 (fun y => if y = xv then some (.str c t2) else if y = xi then some (.int i t1) else m' y) := ⟨hn3, fun b o e => hk3' b o (fun z => by have := Heap.lt_size e; rw [z] at this; exact Nat.lt_irrefl _ (Nat.lt_of_lt_of_le this F.above)) (F2.keep b o e), F.above⟩
    have N3 : News h₀ L h3 news' := fun q hq => ⟨hk3' _ _ (N2 q hq).2.1 (N2 q hq).1, (N2 q hq).2⟩
    have hof : ∀ p ∈ own'', h₀.get? p.1 = none ∧ p.1 ≠ L ∧ ∀ q ∈ news', q.1 ≠ p.1 := fun p hp => by
      rcases hoo p hp with h | h
      · obtain ⟨p', hp', e⟩ := List.mem_map.mp h
        rw [← e]; exact ho' p' hp'
      · refine ⟨?_, fun z => ?_, fun q hq z => ?_⟩
        · cases e : h₀.get? p.1 with
          | none => rfl
          | some o => rw [show ({ s with heap := h', toks := tk', gens := g1 } : Shared).heap.get? p.1 = _ from kp' _ _ e] at h; cases h
        · obtain ⟨_, _, _, e, _⟩ := F'.ns; rw [← z, show h'.get? p.1 = none from h] at e; cases e
        · rw [← z, show h'.get? q.1 = _ from (N' q hq).1] at h; cases h
    have ha' : h₀.get? a = none ∧ a ≠ L ∧ ∀ q ∈ news', q.1 ≠ a := ⟨ha0.1, ha0.2.1, fun q hq z => by
      have : q.1 ∈ news.map (·.1) := hm' ▸ List.mem_map_of_mem hq
      obtain ⟨q', hq', e⟩ := List.mem_map.mp this
      exact ha0.2.2 q' hq' (e.trans z)⟩
    have oa'' : a ∉ own''.map (·.1) := fun hm => by
      obtain ⟨p, hp, e⟩ := List.mem_map.mp hm
      rcases hoo p hp with h | h
      · exact hao' (e ▸ h)
      · obtain ⟨_, _, _, e2, _⟩ := G'.isgen; rw [← e, h] at e2; cases e2
    obtain ⟨oa, nm, qn, ea, ra⟩ := G''.isgen
    have ea3 : h3.get? a = some oa := hk3' _ _ aL ea
    have hoh3 : OwnAt own'' h3 := fun p hp => hk3' _ _ (hof p hp).2.1 (hoh p hp)
    obtain ⟨p1, p2, p3, rfl⟩ := len3 hl3
    clear hkk hk3 hk3' hn3
    clear hoo hoh hTo
    · skip
      have f1 := hof p1 (by simp)
      have f2 := hof p2 (by simp)
      have f3 := hof p3 (by simp)
      have Ng : News h₀ L h3 [p1, p2, p3, (a, oa)] := fun q hq => by
        simp only [List.mem_cons, List.not_mem_nil, or_false] at hq
        rcases hq with rfl | rfl | rfl | rfl
        · exact ⟨hoh3 q (by simp), f1.2.1, f1.1⟩
        · exact ⟨hoh3 q (by simp), f2.2.1, f2.1⟩
        · exact ⟨hoh3 q (by simp), f3.2.1, f3.1⟩
        · exact ⟨ea3, ha'.2.1, ha'.1⟩
      refine wpAny_mono (step i c r m' news' { s with heap := h3, toks := tk3, gens := g2 } p1 p2 p3 (a, oa) t1 t2 _ hJ hm' ⟨_, _, _, rfl, go'.trans go2⟩ F3 (N3.append Ng) (fun q hq => ⟨f1.2.2 q hq, f2.2.2 q hq, f3.2.2 q hq, ha'.2.2 q hq⟩)) (fun fl s₃ h₃ => ?_) fun _ _ x => x
      have fin : StepG h₀ L [p1, p2, p3, (a, oa)] news' (J r) { s with heap := h3, toks := tk3, gens := g2 } (fun v s₃ => Q (.ret v) s₃) .next s₃ → ∃ mm, mm < n ∧ (∃ h' tk g' own items m' news', s₃ = { s with heap := h', toks := tk, gens := g' } ∧ items.length = mm ∧ GenSt w mg mb a g own items s₃ ∧ GOk s.gens g' ∧ Kp h₀ h' ∧ a ∉ own.map (·.1) ∧ (∀ p ∈ own, h₀.get? p.1 = none ∧ p.1 ≠ L ∧ ∀ q ∈ news', q.1 ≠ p.1) ∧
          Fr h₀ L h' m' ∧ News h₀ L h' news' ∧ news'.map (·.1) = news.map (·.1) ∧ J items m' news') := by
        rintro ⟨h4, tk4, m4, news4, rfl, F4, N4, hm4, hJ4⟩
        have Ng4 : News h₀ L h4 [p1, p2, p3, (a, oa)] := N4.right
        have N4' : News h₀ L h4 news4 := fun q hq => N4 q (List.mem_append_left _ hq)
        refine ⟨r.length, by rw [← hn]; exact Nat.lt_succ_self _, h4, tk4, g2, [p1, p2, p3], r, m4, news4, rfl, rfl, ⟨⟨oa, nm, qn, (Ng4 (a, oa) (by simp)).1, ra⟩, fun p hp => (Ng4 p (List.mem_append_left [(a, oa)] hp)).1, G''.run⟩, go'.trans go2, F4.keep, oa'', fun p hp => ⟨(hof p hp).1, (hof p hp).2.1, fun q hq z => ?_⟩, F4, N4', hm4.trans hm', hJ4⟩
        have : q.1 ∈ news'.map (·.1) := hm4 ▸ List.mem_map_of_mem hq
        obtain ⟨q', hq', e⟩ := List.mem_map.mp this
        exact (hof p hp).2.2 q' hq' (e.trans z)
      cases fl with
      | next => exact fin h₃
      | cont => exact fin h₃
      | brk => exact h₃.elim
      | ret v => exact h₃
theorem keep21 : ∀ p : Params, keepIn (Mine.K2 p) (.ref 21) = true := by k_fill; intro p; kernel_rfl
theorem name21 : ∀ p : Params, nsIn (Mine.K2 p) mainGlobals (Str.ofString "_iter_escaped_chars") = some (some (.ref 21)) := by k_fill; intro p; kernel_rfl
/-- _iter_escaped_chars(e) -/
theorem iter_eval {w : World} {mg mb : Str → Option Value} {A : Around} {E : Value → Shared → Prop} {s : Shared} {h₀ : Heap} {cn : Str} {cs : Scope} {L f : Addr} {ccd : Value} {m : Str → Option Value} {x : Str} {e : Expr} {p q : Pos}
    (F : Fr h₀ L s.heap m) (X : (Mine.K2 w.params).In h₀) (T : TopRead Mine.myView LS mg mb h₀) (hh : A.handled = none) (hd : A.depth ≤ 880) (hu : A.units ≤ 7700) (hasc : x.cps.all (· < 128) = true) (hlen : x.length ≤ 4194304)
    (he : wpAny (model PySem.Challenge.rw_om0053_01.prog w) A (eval e (envOf cn cs L f ccd)) (fun v s₁ => ∃ t h1 tk g', v = .str x t ∧ s₁ = { s with heap := h1, toks := tk, gens := g' } ∧ Kp s.heap h1 ∧ GOk s.gens g') E s)
    (hk : cs.kind = .function := by rfl) (hx : (envOf cn cs L f ccd).kindOf (Str.ofString "_iter_escaped_chars") = some .globalImplicit := by rfl)
    (hst : starEach [e] (envOf cn cs L f ccd) = (false, eval e (envOf cn cs L f ccd)) :: starEach [] (envOf cn cs L f ccd) := by rfl)
    (hc : eval (.Call (.Name (Str.ofString "_iter_escaped_chars") p) [e] [] q) (envOf cn cs L f ccd) = (do callWith q (← eval (.Name (Str.ofString "_iter_escaped_chars") p) (envOf cn cs L f ccd)) [] (backTo q (starEach [e] (envOf cn cs L f ccd))) (backToKw q (keywordEach [] (envOf cn cs L f ccd)))) := by rfl) :
    wpAny (model PySem.Challenge.rw_om0053_01.prog w) A (eval (.Call (.Name (Str.ofString "_iter_escaped_chars") p) [e] [] q) (envOf cn cs L f ccd)) (MadeGen w mg mb (escItems x) s) E s := by
  refine Call_ (name_K F X T (name21 _) ?_ hk hx) hc
  refine callWith_K (K := Mine.K2 w.params) X (keep21 _) (args_cons (wpAny_mono he (fun v s₁ hv => ?_) fun _ _ x => x) hst) hst
  obtain ⟨t, h1, tk, g', rfl, rfl, k1, go1⟩ := hv
  have k1' : Kp h₀ h1 := fun b o e => k1 _ _ (F.keep _ _ e)
  refine args_nil ⟨X.keeps k1', ?_⟩
  refine AA_mono 24 (gen_make0 w mg mb { s with heap := h1, toks := tk, gens := g' } _ _ x t (X.keeps k1') (T.keeps k1') hasc hlen fun a own h2 tk2 g2 k2 go2 ha hown hao G => ?_) hh hd hu
  have none_back : ∀ {b : Addr}, h1.get? b = none → s.heap.get? b = none := fun {b} hb => by
    cases q : s.heap.get? b with
    | none => rfl
    | some o => rw [k1 _ _ q] at hb; cases hb
  refine ⟨a, own, _, h2, tk2, g2, rfl, rfl, G, fun b o e => k2 _ _ (k1 _ _ e), go1.trans go2, none_back ha, fun p hp => none_back (hown p hp), hao⟩
end Mine

end
section
open PySem PySem.W PySem.Calls PyProof.Rows
set_option linter.unusedVariables false
namespace Mine
/-- the quoted parts left out: start, the open quotation mark's place, the parts so far, the signs to come -/
noncomputable def stripLoop (x : Str) : Int → Option Int → List Str → List (Int × Str) → Int × List Str
  | st, _, ps, [] => (st, ps)
  | st, op, ps, (i, c) :: r => if (c == Str.ofString "\"") = true then (match op with
      | none => stripLoop x st (some i) ps r
      | some o => stripLoop x (i + 1) none (if (st != o) = true then ps ++ [Txt.slice x (some st) (some o)] else ps) r) else stripLoop x st op ps r
noncomputable def stripOf (x : Str) : Str :=
  let r := stripLoop x 0 none [] (escItems x)
  Txt.join (Str.ofString "") (if r.1 < x.length then r.2 ++ [Txt.slice x (some r.1) none] else r.2)
theorem quote_eq (c : Nat) : ((⟨#[c]⟩ : Str) == Str.ofString "\"") = decide (c = 34) := by
  by_cases h : c = 34
  · subst h; decide
  · rw [decide_eq_false h, beq_eq_false_iff_ne]
    intro z
    exact h (Option.some.inj (congrArg (fun s : Str => s.cps[0]?) z))
theorem quote_two (b c : Nat) : ((⟨#[b, c]⟩ : Str) == Str.ofString "\"") = false := by
  rw [beq_eq_false_iff_ne]
  intro z
  have := congrArg (fun s : Str => s.cps.size) z
  exact absurd (show (2 : Nat) = 1 from this) (by decide)
theorem escFrom_noquote : ∀ (i : Nat) (b : Bool) (l : List Nat), 34 ∉ l → ∀ p ∈ escFrom i b l, (p.2 == Str.ofString "\"") = false
  | i, true, [], _, p, hp => by rw [List.mem_singleton.mp hp]; exact quote_eq 92
  | _, false, [], _, p, hp => nomatch hp
  | i, true, c :: r, h, p, hp => by
    rcases List.mem_cons.mp hp with rfl | hp
    · exact quote_two _ _
    · exact escFrom_noquote _ _ r (fun z => h (.tail _ z)) p hp
  | i, false, c :: r, h, p, hp => by
    unfold escFrom at hp
    split at hp
    · exact escFrom_noquote _ _ r (fun z => h (.tail _ z)) p hp
    · rcases List.mem_cons.mp hp with rfl | hp
      · show ((⟨#[c]⟩ : Str) == _) = false
        rw [quote_eq]
        exact decide_eq_false fun z => h (by rw [z]; exact .head _)
      · exact escFrom_noquote _ _ r (fun z => h (.tail _ z)) p hp
theorem stripLoop_noquote (x : Str) (st : Int) (ps : List Str) : ∀ l : List (Int × Str), (∀ p ∈ l, (p.2 == Str.ofString "\"") = false) → stripLoop x st none ps l = (st, ps)
  | [], _ => rfl
  | (i, c) :: r, h => by
    have hc : (c == Str.ofString "\"") = false := h _ (.head _)
    simp only [stripLoop, hc, Bool.false_eq_true, if_false]
    exact stripLoop_noquote x st ps r fun p hp => h p (.tail _ hp)
theorem str_ext {x y : Str} (h : x.cps.toList = y.cps.toList) : x = y := by
  cases x; cases y
  exact congrArg Str.mk (Array.toList_inj.mp h)
theorem slice_list (x : Str) (l u : Option Int) : (Txt.slice x l u).cps.toList = (Builtin.Str.strSliceIndices l u 1 x.length).filterMap (x.cps[·]?) ∨ ((Builtin.Str.strSliceIndices l u 1 x.length).length = x.length ∧ Txt.slice x l u = x) := by
  unfold Txt.slice
  split
  · rename_i h
    refine .inr ⟨?_, rfl⟩
    simpa using h
  · exact .inl rfl
/-- x[a:b] -/
theorem slice_plain (x : Str) {a b : Nat} (hab : a ≤ b) (hb : b ≤ x.length) : (Txt.slice x (some (a : Int)) (some (b : Int))).cps.toList = (x.cps.toList.drop a).take (b - a) := by
  rcases slice_list x (some (a : Int)) (some (b : Int)) with h | ⟨h1, h2⟩
  · rw [h, StrLaws.sliced_plain x hab hb]
  · rw [h2]
    rw [StrLaws.strSliceIndices_plain hab hb, List.length_map, List.length_range] at h1
    have ha : a = 0 := by (first | lia | omega)
    subst ha
    rw [List.drop_zero, List.take_of_length_le (by rw [Array.length_toList]; show x.length ≤ _; (first | lia | omega))]
theorem idx_none (x : Str) (a : Int) : Builtin.Str.strSliceIndices (some a) none 1 x.length = Builtin.Str.strSliceIndices (some a) (some (x.length : Int)) 1 x.length := by
  unfold Builtin.Str.strSliceIndices
  have h : ¬ ((x.length : Int) < 0) := by (first | lia | omega)
  have e : max (0 : Int) (min (x.length : Int) (x.length : Int)) = x.length := by (first | lia | omega)
  simp only [h, if_false, e, show ((1 : Int) > 0) = True from by simp, if_true]
theorem slice_none (x : Str) (a : Int) : Txt.slice x (some a) none = Txt.slice x (some a) (some (x.length : Int)) := by
  unfold Txt.slice
  rw [idx_none]
/-- x[a:] -/
theorem slice_from (x : Str) {a : Nat} (ha : a ≤ x.length) : (Txt.slice x (some (a : Int)) none).cps.toList = x.cps.toList.drop a := by
  rw [slice_none, slice_plain x ha (Nat.le_refl _), List.take_of_length_le]
  rw [List.length_drop, Array.length_toList]
  exact Nat.le_refl _
theorem join_list_eq (ys : List Str) : (Txt.join (Str.ofString "") ys).cps.toList = ys.flatMap (·.cps.toList) := by
  have e : Txt.join (Str.ofString "") ys = Str.join (Str.ofString "") ys := eq_of_beq (join_closes rfl)
  rw [e]
  have app : ∀ a b : Str, (a ++ b).cps.toList = a.cps.toList ++ b.cps.toList := fun a b => by
    show (a.cps ++ b.cps).toList = _
    rw [Array.toList_append]
  induction ys with
  | nil => rfl
  | cons y r ih =>
    cases r with
    | nil => simp [join_one]
    | cons z r =>
      have e0 : (Str.ofString "").cps.toList = [] := by decide
      rw [join_cons_cons, app, app, ih (by exact eq_of_beq (join_closes rfl)), e0, List.append_nil]; rfl
theorem stripOf_noquote {x : Str} (h : (Builtin.Str.occurrences x (Str.ofString "\"") 0 x.length 1).isEmpty = true) : stripOf x = x := by
  have e : Str.ofString "\"" = ⟨#[34]⟩ := by decide
  rw [e, empty_one] at h
  have hn : 34 ∉ x.cps.toList := by simpa using h
  have hl := stripLoop_noquote x 0 [] (escItems x) (escFrom_noquote 0 false _ hn)
  apply str_ext
  rw [stripOf, hl]
  dsimp only
  split
  · rw [join_list_eq, List.nil_append, List.flatMap_cons, List.flatMap_nil, List.append_nil]
    exact slice_from x (a := 0) (Nat.zero_le _)
  · rw [join_list_eq, List.flatMap_nil]
    have : x.cps.size = 0 := by
      have : ¬ ((0 : Int) < (x.cps.size : Int)) := by assumption
      (first | lia | omega)
    exact (List.length_eq_zero_iff.mp (by rw [Array.length_toList]; exact this)).symm
theorem join_sum : ∀ (ps : List Str), (∀ p ∈ ps, p.length ≤ 1000) → ps.length ≤ 1001 → (ps.map (·.length)).sum ≤ 1001000 := by
  intro ps h hl
  have : (ps.map (·.length)).sum ≤ ps.length * 1000 := by
    clear hl
    induction ps with
    | nil => exact Nat.le_refl _
    | cons p r ih =>
      have h1 := h p (.head _)
      have h2 := ih fun q hq => h q (.tail _ hq)
      simp only [List.map_cons, List.sum_cons, List.length_cons]
      (first | lia | omega)
  (first | lia | omega)
/-- the text is of the first 128 signs -/
noncomputable def Asc (x : Str) : Prop := ∀ c ∈ x.cps.toList, c < 128
theorem Asc.all {x : Str} (h : Asc x) : x.cps.all (· < 128) = true := by
  rw [Array.all_eq_true_iff_forall_mem]
  exact fun c hc => decide_eq_true (h c (Array.mem_toList_iff.mpr hc))
theorem Asc.of_all {x : Str} (h : x.cps.all (· < 128) = true) : Asc x := fun c hc => by
  rw [Array.all_eq_true_iff_forall_mem] at h
  exact of_decide_eq_true (h c (Array.mem_toList_iff.mp hc))
theorem slice_asc {x : Str} (h : Asc x) (l u : Option Int) : Asc (Txt.slice x l u) := fun c hc => by
  rcases slice_list x l u with e | ⟨_, e⟩
  · rw [e] at hc
    obtain ⟨i, _, hi⟩ := List.mem_filterMap.mp hc
    exact h c (Array.mem_toList_iff.mpr (Array.mem_of_getElem? hi))
  · rw [e] at hc; exact h c hc
theorem stripLoop_parts (x : Str) (P : Str → Prop) (hP : ∀ l u, P (Txt.slice x l u)) : ∀ (l : List (Int × Str)) (st : Int) (op : Option Int) (ps : List Str), (∀ p ∈ ps, P p) → (∀ p ∈ (stripLoop x st op ps l).2, P p) ∧ (stripLoop x st op ps l).2.length ≤ ps.length + l.length
  | [], st, op, ps, h => by simp only [stripLoop]; exact ⟨h, Nat.le_refl _⟩
  | (i, c) :: r, st, op, ps, h => by
    simp only [stripLoop, List.length_cons]
    split
    · cases op with
      | none => dsimp only; have := stripLoop_parts x P hP r st (some i) ps h; exact ⟨this.1, by (first | lia | omega)⟩
      | some o =>
        dsimp only
        split
        · have := stripLoop_parts x P hP r (i + 1) none (ps ++ [Txt.slice x (some st) (some o)]) (fun p hp => (List.mem_append.mp hp).elim (h p) fun z => by rw [List.mem_singleton.mp z]; exact hP _ _)
          refine ⟨this.1, ?_⟩
          have h2 := this.2
          rw [List.length_append, List.length_singleton] at h2
          (first | lia | omega)
        · have := stripLoop_parts x P hP r (i + 1) none ps h; exact ⟨this.1, by (first | lia | omega)⟩
    · have := stripLoop_parts x P hP r st op ps h; exact ⟨this.1, by (first | lia | omega)⟩
theorem escFrom_len : ∀ (i : Nat) (b : Bool) (l : List Nat), (escFrom i b l).length ≤ l.length + 1
  | _, true, [] => Nat.le_refl _
  | _, false, [] => Nat.zero_le _
  | i, true, c :: r => by have := escFrom_len (i + 1) false r; simp only [escFrom, List.length_cons]; (first | lia | omega)
  | i, false, c :: r => by
    unfold escFrom
    split
    · have := escFrom_len (i + 1) true r; simp only [List.length_cons]; (first | lia | omega)
    · have := escFrom_len (i + 1) false r; simp only [List.length_cons]; (first | lia | omega)
theorem escItems_len (x : Str) : (escItems x).length ≤ x.length + 1 := by
  have := escFrom_len 0 false x.cps.toList
  rw [Array.length_toList] at this
  exact this
theorem strip_ok {x : Str} (hasc : Asc x) (hlen : x.length ≤ 1000) : Asc (stripOf x) ∧ (stripOf x).length ≤ 1003002 := by
  have hp := stripLoop_parts x (fun p => Asc p ∧ p.length ≤ 1000) (fun l u => ⟨slice_asc hasc l u, Nat.le_trans (Txt.slice_le x l u) hlen⟩) (escItems x) 0 none [] (fun _ h => nomatch h)
  have hl := escItems_len x
  unfold stripOf
  generalize stripLoop x 0 none [] (escItems x) = r at hp
  obtain ⟨h1, h2⟩ := hp
  rw [List.length_nil] at h2
  have key : ∀ ys : List Str, (∀ p ∈ ys, Asc p ∧ p.length ≤ 1000) → ys.length ≤ 1003 → Asc (Txt.join (Str.ofString "") ys) ∧ (Txt.join (Str.ofString "") ys).length ≤ 1003002 := fun ys hy hn => by
    have e := join_list_eq ys
    refine ⟨fun c hc => ?_, ?_⟩
    · rw [e] at hc
      obtain ⟨p, hp, hc⟩ := List.mem_flatMap.mp hc
      exact (hy p hp).1 c hc
    · show (Txt.join (Str.ofString "") ys).cps.size ≤ _
      rw [← Array.length_toList, e, List.length_flatMap]
      have : ∀ ys : List Str, (∀ p ∈ ys, Asc p ∧ p.length ≤ 1000) → (ys.map fun p => p.cps.toList.length).sum ≤ ys.length * 1000 := fun ys hy => by
        induction ys with
        | nil => exact Nat.le_refl _
        | cons p r ih =>
          have a := (hy p (.head _)).2
          have b := ih fun q hq => hy q (.tail _ hq)
          have c : p.cps.toList.length = p.length := Array.length_toList
          simp only [List.map_cons, List.sum_cons, List.length_cons]
          (first | lia | omega)
      have := this ys hy
      (first | lia | omega)
  dsimp only
  split
  · refine key _ (fun p hp => (List.mem_append.mp hp).elim (h1 p) fun z => by rw [List.mem_singleton.mp z]; exact ⟨slice_asc hasc _ _, Nat.le_trans (Txt.slice_le x _ _) hlen⟩) ?_
    rw [List.length_append, List.length_singleton]; (first | lia | omega)
  · exact key _ h1 (by (first | lia | omega))
/-- the brackets of a list of signs, from o open ones -/
noncomputable def balOf : Int → List (Int × Str) → Bool
  | o, [] => o == 0
  | o, (_, c) :: r => if (c == Str.ofString "(") = true then balOf (o + 1) r else if (c == Str.ofString ")") = true then (if o - 1 < 0 then false else balOf (o - 1) r) else balOf o r
noncomputable def checkOf (x : Str) : Bool := balOf 0 (escItems (stripOf x))
end Mine

end
section
open PySem PySem.W PySem.Calls PyProof.Rows
set_option Elab.async false
set_option linter.unusedVariables false
namespace Mine
open PySem.W.X
noncomputable def opV : Option (Int × Tok) → Value
  | none => .none
  | some (o, t) => .int o t
noncomputable def SJ (x : Str) (t : Tok) (R : Addr) (fin : Int × List Str) (items : List (Int × Str)) (m : Str → Option Value) (news : List (Addr × Obj)) : Prop :=
  ∃ st ts op ps its n, news = [(R, W.listOf its n)] ∧ m (Str.ofString "start") = some (.int st ts) ∧ m (Str.ofString "open_pos") = some (opV op) ∧ m (Str.ofString "addr") = some (.str x t) ∧ m (Str.ofString "result") = some (.ref R) ∧
    StrsAre its.toList ps ∧ stripLoop x st (op.map (·.1)) ps items = fin ∧ (∀ p ∈ ps, p.length ≤ 1000) ∧ ps.length + items.length ≤ 1001
theorem canon4 {m : Str → Option Value} {a b c d : Str} {v1 v2 v3 v4 : Option Value} (h1 : m a = v1) (h2 : m b = v2) (h3 : m c = v3) (h4 : m d = v4) : ∃ rest : Str → Option Value, m = fun y => if y = a then v1 else if y = b then v2 else if y = c then v3 else if y = d then v4 else rest y := by
  refine ⟨m, funext fun y => ?_⟩
  by_cases e1 : y = a
  · rw [if_pos e1, e1, h1]
  · rw [if_neg e1]
    by_cases e2 : y = b
    · rw [if_pos e2, e2, h2]
    · rw [if_neg e2]
      by_cases e3 : y = c
      · rw [if_pos e3, e3, h3]
      · rw [if_neg e3]
        by_cases e4 : y = d
        · rw [if_pos e4, e4, h4]
        · rw [if_neg e4]
theorem strsAre_push {its : Array Value} {ps : List Str} {y : Str} {t : Tok} (h : StrsAre its.toList ps) : StrsAre (its.push (.str y t)).toList (ps ++ [y]) := by
  rw [Array.toList_push]
  generalize its.toList = l at h
  induction h with
  | nil => exact .cons _ _ .nil
  | cons a b _ ih => exact .cons a b ih
theorem neq4 {a p1 p2 p3 pa : Addr} (h : a ≠ p1 ∧ a ≠ p2 ∧ a ≠ p3 ∧ a ≠ pa) : @Ne Nat a p1 ∧ @Ne Nat a p2 ∧ @Ne Nat a p3 ∧ @Ne Nat a pa := h
local macro_rules | `(tactic| walk_at "exec For Tuple Call") => `(tactic| (k_here; refine Halt.mk ?_))
local macro_rules | `(tactic| walk_at "storeName") => `(tactic| walk_at "my_store")
set_option maxRecDepth 100000 in
set_option maxHeartbeats 8000000 in
theorem strip_spec0 : ∀ (w : World) (mg mb : Str → Option Value) (s : Shared) (Q E : Value → Shared → Prop) (x : Str) (t : Tok),
    (Mine.K2 w.params).In s.heap → TopRead Mine.myView LS mg mb s.heap → x.cps.all (· < 128) = true → x.length ≤ 1000 → (∀ (v : Value) (h' : Heap) (tk : Nat) (g' : Array GenState), Kp s.heap h' → GOk s.gens g' → (StrIs (stripOf x)) s.heap v h' → Q v { s with heap := h', toks := tk, gens := g' }) →
    wpAny (model PySem.Challenge.rw_om0053_01.prog w) (AA 23) (call (.ref 28) [.str x t]) Q E s := by
  k_fill
  intro w mg mb s Q E x t X T hasc hlen hret
  refine wpAny_call ?_
  k_dflt (refine' call_plain (binds := [(Str.ofString "addr", .str x t)]) ?k1 ?k2 ?k3 ?k4 ?k5 ?k6 ?k7 ?_ ?c1 ?c2 ?c3 ?c4; (case k2 => exact X _ _ (by k_is)); (case k3 => exact rfl); (case k1 => decide); (case k4 => exact T.nolimit); (case k5 => exact codeRec_of X (by k_is)); (case k6 => exact rfl); (case k7 => exact locs rfl); (case c1 => exact rfl); (case c2 => exact rfl); (case c3 => exact rfl); (case c4 => decide))
  intro h1 F1
  k_fold
  have N1 : News s.heap s.heap.objs.size h1 [] := News.nil
  k_steps
  · exact hret _ _ _ _ F1.keep (GOk.refl _) (end_str (stripOf_noquote (by assumption)).symm)
  · rename Fr _ _ _ _ => F2
    rename News _ _ _ _ => N2
    refine Halt.go (for_gen (its := escItems x) (SJ x t _ (stripLoop x 0 none [] (escItems x))) F2 N2 X T rfl (Nat.le_of_ble_eq_true rfl) (Nat.le_of_ble_eq_true rfl) rfl rfl rfl ?it ⟨0, _, none, [], _, _, rfl, rfl, rfl, rfl, rfl, .nil, rfl, (fun _ h => nomatch h), ?len⟩ ?step ?fin (fun _ => rfl))
    case it =>
      exact iter_eval F2 X T rfl (Nat.le_of_ble_eq_true rfl) (Nat.le_of_ble_eq_true rfl) hasc (by (first | lia | omega)) (ld F2 rfl ⟨t, _, _, _, rfl, rfl, fun _ _ q => q, GOk.refl _⟩)
    case len => have := escItems_len x; simp only [List.length_nil]; (first | lia | omega)
    case step =>
      rintro i c r m₁ news₁ s₁ p1 p2 p3 pa ti tc E' ⟨st, ts, op, ps, its, n, rfl, hst, hop, had, hre, hps, hfin, hlp, hln⟩ hmm ⟨h3, tk3, g3, rfl, go3⟩ F3 N3 hap
      obtain ⟨q1, q2, q3, q4⟩ := neq4 (hap _ (List.Mem.head _))
      have hz : its.size ≤ 1001 := by have := hps.length; rw [Array.length_toList] at this; (first | lia | omega)
      have hz2 : its.size ≤ sizeLine := Nat.le_trans hz (by decide)
      simp only [List.cons_append, List.nil_append] at N3
      obtain ⟨rest, rfl⟩ := canon4 hst hop had hre
      clear F2 N2 hap hst hop had hre
      cases op with
      | none =>
        dsimp only [opV] at F3
        k_steps
        · rename (c == _) = _ => hc
          refine StepG.next (news' := [(_, W.listOf _ _)]) (by assumption) (by assumption) rfl ?_
          refine ⟨st, ts, some (i, _), ps, its, n, rfl, rfl, rfl, rfl, rfl, hps, ?_, hlp, ?_⟩
          · rw [← hfin]; simp only [stripLoop, hc, Option.map_some, Option.map_none, if_true]
          · simp only [List.length_cons] at hln; (first | lia | omega)
        · rename (c == _) = _ => hc
          refine StepG.next (news' := [(_, W.listOf _ _)]) (by assumption) (by assumption) rfl ?_
          refine ⟨st, ts, none, ps, its, n, rfl, rfl, rfl, rfl, rfl, hps, ?_, hlp, ?_⟩
          · rw [← hfin]; simp only [stripLoop, hc, Option.map_some, Option.map_none, Bool.false_eq_true, if_false]
          · simp only [List.length_cons] at hln; (first | lia | omega)
      | some o =>
        obtain ⟨o, to⟩ := o
        dsimp only [opV] at F3
        k_steps
        · rename (c == _) = _ => hc
          rename st ≠ o => hne
          rename (Txt.slice x (some st) (some o)).length ≤ x.length => hsl
          have hne' : (st != o) = true := by simpa using hne
          refine StepG.next (news' := [(_, W.listOf (its.push (.str _ _)) (n + 1))]) (by assumption) (by assumption) rfl ?_
          refine ⟨(i + 1), _, none, (ps ++ [Txt.slice x (some st) (some o)]), _, _, rfl, rfl, rfl, rfl, rfl, (strsAre_push hps), ?_, (fun q hq => (List.mem_append.mp hq).elim (hlp q) fun h => by rw [List.mem_singleton.mp h]; (first | lia | omega)), ?_⟩
          · rw [← hfin]; simp only [stripLoop, hc, hne', Option.map_some, Option.map_none, if_true]
          · simp only [List.length_cons, List.length_append, List.length_nil] at hln ⊢; (first | lia | omega)
        · rename (c == _) = _ => hc
          rename st = o => hne
          have hne' : (st != o) = false := by simpa using hne
          refine StepG.next (news' := [(_, W.listOf _ _)]) (by assumption) (by assumption) rfl ?_
          refine ⟨(i + 1), _, none, ps, its, n, rfl, rfl, rfl, rfl, rfl, hps, ?_, hlp, ?_⟩
          · rw [← hfin]; simp only [stripLoop, hc, hne', Option.map_some, Option.map_none, if_true, Bool.false_eq_true, if_false]
          · simp only [List.length_cons] at hln; (first | lia | omega)
        · rename (c == _) = _ => hc
          refine StepG.next (news' := [(_, W.listOf _ _)]) (by assumption) (by assumption) rfl ?_
          refine ⟨st, ts, some (o, to), ps, its, n, rfl, rfl, rfl, rfl, rfl, hps, ?_, hlp, ?_⟩
          · rw [← hfin]; simp only [stripLoop, hc, Option.map_some, Option.map_none, Bool.false_eq_true, if_false]
          · simp only [List.length_cons] at hln; (first | lia | omega)
    case fin =>
      rintro h5 tk5 g5 m5 news5 F5 N5 hm5 ⟨st, ts, op, ps, its, n, rfl, hst, hop, had, hre, hps, hfin, hlp, hln⟩ go5
      obtain ⟨rest, rfl⟩ := canon4 hst hop had hre
      have hz : its.size ≤ 1001 := by have := hps.length; rw [Array.length_toList] at this; simp only [List.length_nil] at hln; (first | lia | omega)
      have hz2 : its.size ≤ sizeLine := Nat.le_trans hz (by decide)
      clear F2 N2 hst hop had hre
      show wpAny _ _ _ _ _ _
      replace hfin : stripLoop x 0 none [] (escItems x) = (st, ps) := by rw [← hfin]; simp only [stripLoop]
      have hs1 := join_sum ps hlp (by simp only [List.length_nil] at hln; (first | lia | omega))
      k_steps
      · rename News _ _ _ _ => N6
        rename Fr _ _ _ _ => F6
        rename (Txt.slice x (some st) none).length ≤ x.length => hsl
        rename st < _ => hlt
        refine join_list (isList_of_news N6 (.head _)) (strsAre_push hps) ?_ fun t' k => ?_
        · have : (Str.ofString "").length = 0 := by decide
          rw [this, List.map_append, List.sum_append]; simp only [List.map_cons, List.map_nil, List.sum_cons, List.sum_nil]; (first | lia | omega)
        · refine hret _ _ _ _ F6.keep go5 (end_str ?_)
          rw [stripOf, hfin]; exact (congrArg _ (if_pos hlt)).symm
      · rename News _ _ _ _ => N6
        rename Fr _ _ _ _ => F6
        rename ¬ (st < _) => hlt
        refine join_list (isList_of_news N6 (.head _)) hps ?_ fun t' k => ?_
        · have : (Str.ofString "").length = 0 := by decide
          rw [this]; (first | lia | omega)
        · refine hret _ _ _ _ F6.keep go5 (end_str ?_)
          rw [stripOf, hfin]; exact (congrArg _ (if_neg hlt)).symm
theorem strip_spec (w : World) (mg mb : Str → Option Value) (x : Str) (t : Tok) (hasc : x.cps.all (· < 128) = true) (hlen : x.length ≤ 1000) :
    Spec w mg mb 23 28 [.str x t] (fun _ => True) (StrIs (stripOf x)) :=
  fun s Q E X T _ hret => strip_spec0 w mg mb s Q E x t X T hasc hlen hret
end Mine

end
section
open PySem PySem.W PySem.Calls PyProof.Rows
set_option Elab.async false
set_option linter.unusedVariables false
namespace Mine
open PySem.W.X
noncomputable def CJ' (t : Tok) (x : Str) (fin : Bool) (items : List (Int × Str)) (m : Str → Option Value) (news : List (Addr × Obj)) : Prop :=
  ∃ op to, news = [] ∧ m (Str.ofString "opens") = some (.int op to) ∧ balOf op items = fin
theorem canon1 {m : Str → Option Value} {a : Str} {v1 : Option Value} (h1 : m a = v1) : ∃ rest : Str → Option Value, m = fun y => if y = a then v1 else rest y :=
  ⟨m, funext fun y => by
    by_cases e1 : y = a
    · rw [if_pos e1, e1, h1]
    · rw [if_neg e1]⟩
local macro_rules | `(tactic| walk_at "exec For Tuple Call") => `(tactic| (k_here; refine Halt.mk ?_))
local macro_rules | `(tactic| walk_at "call ref") => `(tactic| (k_here; (with_reducible show wpAny _ _ (call (Value.ref 28) [Value.str _ _]) _ _ _); refine Halt.mk ?_))
local macro_rules | `(tactic| walk_at "storeName") => `(tactic| walk_at "my_store")
set_option maxRecDepth 100000 in
set_option maxHeartbeats 8000000 in
theorem check_spec0 : ∀ (w : World) (mg mb : Str → Option Value) (s : Shared) (Q E : Value → Shared → Prop) (x : Str) (t : Tok),
    (Mine.K2 w.params).In s.heap → TopRead Mine.myView LS mg mb s.heap → Asc x → x.length ≤ 1000 → (∀ (v : Value) (h' : Heap) (tk : Nat) (g' : Array GenState), Kp s.heap h' → GOk s.gens g' → (BoolIs (checkOf x)) s.heap v h' → Q v { s with heap := h', toks := tk, gens := g' }) →
    wpAny (model PySem.Challenge.rw_om0053_01.prog w) (AA 22) (call (.ref 35) [.str x t]) Q E s := by
  k_fill
  intro w mg mb s Q E x t X T hasc hlen hret
  refine wpAny_call ?_
  k_dflt (refine' call_plain (binds := [(Str.ofString "addr", .str x t)]) ?k1 ?k2 ?k3 ?k4 ?k5 ?k6 ?k7 ?_ ?c1 ?c2 ?c3 ?c4; (case k2 => exact X _ _ (by k_is)); (case k3 => exact rfl); (case k1 => decide); (case k4 => exact T.nolimit); (case k5 => exact codeRec_of X (by k_is)); (case k6 => exact rfl); (case k7 => exact locs rfl); (case c1 => exact rfl); (case c2 => exact rfl); (case c3 => exact rfl); (case c4 => decide))
  intro h1 F1
  k_fold
  have N1 : News s.heap s.heap.objs.size h1 [] := News.nil
  k_steps
  refine Halt.go (Spec.use (strip_spec w mg mb x t hasc.all hlen) F1 N1 X T trivial rfl (Nat.le_of_ble_eq_true rfl) (Nat.le_of_ble_eq_true rfl) fun v h2 tk2 g2 kp2 go2 po2 F2 N2 => ?_)
  obtain ⟨t2, rfl⟩ := po2
  have hs := strip_ok hasc hlen
  clear F1 N1
  k_steps
  rename Fr _ _ _ _ => F3
  rename News _ _ _ _ => N3
  refine Halt.go (for_gen (its := escItems (stripOf x)) (CJ' t x (checkOf x)) F3 N3 X T rfl (Nat.le_of_ble_eq_true rfl) (Nat.le_of_ble_eq_true rfl) rfl rfl rfl ?it ⟨0, _, rfl, rfl, rfl⟩ ?step ?fin (fun _ => rfl))
  case it =>
    exact iter_eval F3 X T rfl (Nat.le_of_ble_eq_true rfl) (Nat.le_of_ble_eq_true rfl) hs.1.all (by (first | lia | omega)) (ld F3 rfl ⟨_, _, _, _, rfl, rfl, fun _ _ q => q, GOk.refl _⟩)
  case step =>
    rintro i c r m₁ news₁ s₁ p1 p2 p3 pa ti tc E' ⟨op, to, rfl, hop, hfin⟩ hmm ⟨h3, tk3, g3, rfl, go3⟩ F4 N4 hap
    simp only [List.nil_append] at N4
    obtain ⟨rest, rfl⟩ := canon1 hop
    clear F3 N3 hap hop
    k_steps
    · rename (c == _) = true => hc
      refine StepG.next (news' := []) (by assumption) (by assumption) rfl ?_
      exact ⟨_, _, rfl, rfl, by rw [← hfin]; simp only [balOf, hc, if_true]⟩
    · rename (c == Str.ofString "(") = false => hc1
      rename (c == Str.ofString ")") = true => hc2
      rename _ < (0 : Int) => hlt
      rename Fr _ _ _ _ => F6
      exact hret _ _ _ _ F6.keep (go2.trans go3) (end_bool (by rw [← hfin]; simp only [balOf, hc1, hc2, hlt, Bool.false_eq_true, if_true, if_false]))
    · rename (c == Str.ofString "(") = false => hc1
      rename (c == Str.ofString ")") = true => hc2
      rename ¬ (_ < (0 : Int)) => hlt
      refine StepG.next (news' := []) (by assumption) (by assumption) rfl ?_
      exact ⟨_, _, rfl, rfl, by rw [← hfin]; simp only [balOf, hc1, hc2, hlt, Bool.false_eq_true, if_true, if_false]⟩
    · rename (c == Str.ofString "(") = false => hc1
      rename (c == Str.ofString ")") = false => hc2
      refine StepG.next (news' := []) (by assumption) (by assumption) rfl ?_
      exact ⟨_, _, rfl, rfl, by rw [← hfin]; simp only [balOf, hc1, hc2, Bool.false_eq_true, if_false]⟩
  case fin =>
    rintro h5 tk5 g5 m5 news5 F5 N5 hm5 ⟨op, to, rfl, hop, hfin⟩ go5
    obtain ⟨rest, rfl⟩ := canon1 hop
    clear F3 N3 hop
    show wpAny _ _ _ _ _ _
    k_steps
    rename Fr _ _ _ _ => F6
    exact hret _ _ _ _ F6.keep (go2.trans go5) (end_bool (by rw [← hfin]; simp only [balOf]))
theorem check_spec (w : World) (mg mb : Str → Option Value) (x : Str) (t : Tok) (hasc : Asc x) (hlen : x.length ≤ 1000) :
    Spec w mg mb 22 35 [.str x t] (fun _ => True) (BoolIs (checkOf x)) :=
  fun s Q E X T _ hret => check_spec0 w mg mb s Q E x t X T hasc hlen hret
end Mine

end
section
open PySem PySem.W PySem.Calls PyProof.Rows
set_option Elab.async false
set_option linter.unusedVariables false
namespace Mine
open PySem.W.X
section
variable {prog : Program} {w : World} {A : Around} {E : Value → Shared → Prop} {s : Shared} {h₀ : Heap} {L l : Addr} {m : Str → Option Value} {news : List (Addr × Obj)} {items : Array Value}
noncomputable def itObj (l : Addr) (i : Nat) : Obj := { cls := .type "list_iterator", data := .fields #[.ref l, .int i 0] }
theorem iter_list {Q : Value → Shared → Prop} (F : Fr h₀ L s.heap m) (N : News h₀ L s.heap news) (hl : s.heap.IsList l items)
    (h : ∀ (I : Addr) h', Fr h₀ L h' m → News h₀ L h' ((I, itObj l 0) :: news) → Q (.ref I) { s with heap := h' }) :
    wpAny (model prog w) A (call (.builtin "iter") [.ref l]) Q E s := by
  refine call_function_entry (by decide +kernel) (by decide +kernel) kdk_entry_iter (kdk_args_iter _) ?_
  unfold Builtin.«iter»
  refine wpAny_bind (m := someArgs "iter" 1 2 _) (wpAny_of_eq (a := [Value.ref l]) (by first | rfl | kernel_rfl!) ?_)
  show wpAny _ _ (pyIter (.ref l) >>= _) _ _ _
  refine wpAny_bind (wpAny_pyIter_list hl ?_)
  exact wpAny_pure ⟨_, rfl, h _ _ (F.push _) (News.push F N _ rfl)⟩
end
local macro_rules | `(tactic| walk_at "call builtin:iter") => `(tactic| (k_here; refine iter_list (by k_asm) (by k_asm) (isList_keep (by assumption) (Fr.keep (by k_asm))) ?_; intro I' h' F' N'))
local macro_rules | `(tactic| walk_at "exec For Name Name cons nil") => `(tactic| (k_here; refine Halt.mk ?_))
theorem news_name {h₀ h : Heap} {L a : Addr} {o : Obj} {r : List (Addr × Obj)} (N : News h₀ L h ((a, o) :: r)) : ∃ I : Addr, I = a := ⟨a, rfl⟩
theorem keep110 : ∀ p : Params, keepIn (Mine.K2 p) (.ref 110) = true := by k_fill; intro p; kernel_rfl
theorem IsList.ne_ns {h : Heap} {a L : Addr} {its : Array Value} {m : Str → Option Value} (x : h.IsList a its) (n : h.Ns L m) : a ≠ L := fun z => by
  obtain ⟨o, e, _, k, hd⟩ := x
  obtain ⟨o2, es, ep, e2, hd2, _⟩ := n
  rw [z, e2] at e
  injection e with e
  rw [e, hd] at hd2
  cases hd2
/-- one step of _law_walk -/
noncomputable def walkStep (p : Int × Int) (c : Str) : Int × Int := (minOf p.1 (p.2 + stepOf c), p.2 + stepOf c)
noncomputable def walkOf (cs : List Str) : Int × Int := cs.foldl walkStep (0, 0)
noncomputable def L2 (h : Heap) (a : Addr) (p : Int × Int) : Prop := ∃ t1 t2, h.IsList a #[.int p.1 t1, .int p.2 t2]
local macro_rules | `(tactic| walk_at "storeName") => `(tactic| walk_at "my_store")
set_option maxRecDepth 100000 in
set_option maxHeartbeats 8000000 in
theorem reduce_spec0 : ∀ (w : World) (mg mb : Str → Option Value) (s : Shared) (Q E : Value → Shared → Prop) (l a : Addr) (items : Array Value) (cs : List Str),
    (Mine.K2 w.params).In s.heap → TopRead Mine.myView LS mg mb s.heap → s.heap.IsList l items → StrsAre items.toList cs → L2 s.heap a (0, 0) →
    (∀ (a' : Addr) (h' : Heap) (tk : Nat) (g' : Array GenState), Kp s.heap h' → GOk s.gens g' → (a' = a ∨ s.heap.get? a' = none) → L2 h' a' (walkOf cs) → Q (.ref a') { s with heap := h', toks := tk, gens := g' }) →
    wpAny (model PySem.Challenge.rw_om0053_01.prog w) (AA 19) (call (.ref 51) [.ref 110, .ref l, .ref a]) Q E s := by
  k_fill
  intro w mg mb s Q E l a items cs X T hl hst ha hret
  refine wpAny_call ?_
  k_dflt (refine' codeAny_call_function (by decide) (X _ _ (by k_is)) rfl rfl rfl rfl (codeRec_of X (by k_is)) ?_)
  k_dflt (refine' (binds_K (binds := [(Str.ofString "function", .ref 110), (Str.ofString "sequence", .ref l), (Str.ofString "initial", .ref a)]) X rfl (by k_is) rfl rfl rfl) _ _ _ _ ?_)
  refine wpAny_newFunctionEnv (by decide) (locs rfl) (fun h1 hns hsb => ⟨T.nolimit.fresh _ hsb, codeAny_func ?_⟩) rfl
  have F1 : Fr s.heap s.heap.objs.size h1 _ := ⟨hns, fun b o e => hsb.extBut b o (Nat.ne_of_lt (Heap.lt_size e)) (Heap.get?_push_of_some _ e), Nat.le_refl _⟩
  show wpAny _ _ (execs _ (envOf (Str.ofString "reduce") _ s.heap.objs.size 51 _)) _ _ _
  k_fold
  have N1 : News s.heap s.heap.objs.size h1 [] := News.nil
  clear hns hsb
  k_steps
  rename Fr _ _ _ _ => F2
  rename News _ _ _ _ => N2
  have e43 := X 43 _ (by k_is)
  have ha0 := ha
  obtain ⟨ta, tb, oa, ea, hca, na, hda⟩ := ha0
  have hne : a ≠ 43 := fun z => by rw [z, e43] at ea; injection ea with ea; rw [← ea] at hca; injection hca with hca; exact absurd hca (by decide)
  refine wpAny_is_ref_other hne (F2.keep _ _ ea) (F2.keep _ _ e43) (by rw [hca]; intro z; injection z with z; exact absurd z (by decide)) ?_
  clear hne
  k_steps
  rename Fr _ _ _ _ => F3
  rename News _ _ _ _ => N3
  obtain ⟨I, hI⟩ := news_name N3
  subst hI
  have n3 := N3 _ (.head _)
  refine Halt.go (wpAny_For ?_ (fun _ => rfl))
  refine ld F3 rfl ?_
  refine wpAny_pyIter_listiter (i := 0) ⟨_, n3.1, rfl, rfl⟩ ?_
  have hlen := hst.length
  rw [Array.length_toList] at hlen
  refine codeAny_forLoop (fun n s' => ∃ h' tk g' i av m', s' = { s with heap := h', toks := tk, gens := g' } ∧ GOk s.gens g' ∧ i + n = items.size ∧ h'.IsListIter _ l i ∧ Fr s.heap s.heap.objs.size h' m' ∧ m' (Str.ofString "value") = some (.ref av) ∧ m' (Str.ofString "function") = some (.ref 110) ∧ (av = a ∨ s.heap.get? av = none) ∧ L2 h' av (walkOf (cs.take i))) ?_ items.size
    ⟨_, _, _, 0, a, _, rfl, GOk.refl _, Nat.zero_add _, ⟨_, n3.1, rfl, rfl⟩, F3, rfl, rfl, .inl rfl, ta, tb, isList_keep ⟨oa, ea, hca, na, hda⟩ F3.keep⟩
  rintro n s' ⟨h', tk, g', i, av, m', rfl, go', hin, hit, F', hmv, hmf, hfr, hL⟩
  have hl' : h'.IsList l items := isList_keep hl F'.keep
  by_cases hlt : i < items.size
  · obtain ⟨c, tc, hx, hcs⟩ : ∃ c tc, items[i]? = some (.str c tc) ∧ cs[i]? = some c := by
      have h1 : items.toList[i]? = some items[i] := by rw [Array.getElem?_toList]; exact Array.getElem?_eq_getElem hlt
      obtain ⟨c, hc⟩ : ∃ c, cs[i]? = some c := ⟨_, List.getElem?_eq_getElem (by (first | lia | omega))⟩
      obtain ⟨tc, e⟩ := hst.at hc
      exact ⟨c, tc, by rw [← Array.getElem?_toList]; exact e, hc⟩
    refine wpAny_pyNext_list_item hit hl' hx fun h4 hit4 hs4 => ?_
    have F4 := F'.change hs4 n3.2.1 n3.2.2
    obtain ⟨t1, t2, hav⟩ := hL
    have avI : av ≠ I := fun z => by
      obtain ⟨o, e, hc, _⟩ := hav
      obtain ⟨o2, e2, hc2, _⟩ := hit
      rw [z, e2] at e; injection e with e; rw [e, hc] at hc2; injection hc2 with hc2; exact absurd hc2 (by decide)
    have hav4 : h4.IsList av _ := let ⟨o, e, r⟩ := hav; ⟨o, (hs4.2 _ avI).trans e, r⟩
    have hav4L := IsList.ne_ns hav4 F4.ns
    refine wpAny_assign_Name (wpAny_storeName_local rfl F4.ns (fun h5 hn5 hs5 => ?_) rfl)
    replace hs5 : Heap.SameBut s.heap.objs.size h4 h5 := hs5
    have F5 := F4.set hn5 hs5
    have hav5 : h5.IsList av _ := let ⟨o, e, r⟩ := hav4; ⟨o, (hs5.2 _ hav4L).trans e, r⟩
    have X5 := X.keeps F5.keep
    refine wpAny_execs_cons (wpAny_Assign_Name (Call_ (ld F5 hmf (callWith_K (K := Mine.K2 w.params) X5 (keep110 _) (args_cons (ld F5 hmv (args_cons (ld F5 rfl (args_nil ⟨X5, ?_⟩)))))))))
    refine AA_mono 20 (walk_spec w mg mb av _ _ t1 t2 tc c _ _ _ X5 (T.keeps F5.keep) hav5 fun v h6 tk6 g6 kp6 go6 po6 => ?_) rfl (Nat.le_of_ble_eq_true rfl) (Nat.le_of_ble_eq_true rfl)
    obtain ⟨a6, u1, u2, rfl, nl6⟩ := po6
    have F6 := F5.grownK kp6
    refine wpAny_storeName_local rfl F6.ns (fun h7 hn7 hs7 => ?_) rfl
    replace hs7 : Heap.SameBut s.heap.objs.size h6 h7 := hs7
    have F7 := F6.set hn7 hs7
    have l6 := nl6.isList
    have fr0 : h5.get? a6 = none → s.heap.get? a6 = none := fun z => by
      cases e : s.heap.get? a6 with
      | none => rfl
      | some o => rw [F5.keep _ _ e] at z; cases z
    have l6L := IsList.ne_ns l6 F6.ns
    refine wpAny_execs_nil ⟨n - 1, by (first | lia | omega), h7, _, g6, i + 1, a6, _, rfl, go'.trans go6, by (first | lia | omega), ?_, F7, rfl, hmf, .inr (fr0 nl6.1), u1, u2, ?_⟩
    · obtain ⟨o, e, r⟩ := hit4
      exact ⟨o, (hs7.2 _ n3.2.1).trans (kp6 _ _ ((hs5.2 _ n3.2.1).trans e)), r⟩
    · have e : walkOf (cs.take (i + 1)) = walkStep (walkOf (cs.take i)) c := by
        rw [List.take_add_one, hcs, walkOf, List.foldl_append]; rfl
      rw [e]
      obtain ⟨o, e, r⟩ := l6
      exact ⟨o, (hs7.2 _ l6L).trans e, r⟩
  · have hx : items[i]? = none := Array.getElem?_eq_none (Nat.not_lt.mp hlt)
    refine wpAny_pyNext_list_end rfl hit hl' hx fun h4 hs4 => wpAny_execs_nil ?_
    have hk4 : ∀ b o, b ≠ I → h'.get? b = some o → h4.get? b = some o := hs4
    have F4 : Fr s.heap s.heap.objs.size h4 m' := ⟨F'.ns.extBut hs4 (Ne.symm n3.2.1), fun b o e => hk4 b o (fun z => by rw [z, n3.2.2] at e; cases e) (F'.keep _ _ e), F'.above⟩
    obtain ⟨t1, t2, hav⟩ := hL
    have avI : av ≠ I := fun z => by
      obtain ⟨o, e, hc, _⟩ := hav
      obtain ⟨o2, e2, hc2, _⟩ := hit
      rw [z, e2] at e; injection e with e; rw [e, hc] at hc2; injection hc2 with hc2; exact absurd hc2 (by decide)
    show wpAny _ _ _ _ _ _
    refine wpAny_execs_cons (wpAny_Return_some (ld F4 hmv ?_))
    refine hret av h4 _ g' F4.keep go' hfr ⟨t1, t2, ?_⟩
    rw [List.take_of_length_le (by (first | lia | omega))] at hav
    obtain ⟨o, e, r⟩ := hav
    exact ⟨o, hk4 _ _ avI e, r⟩
end Mine

end
section
open PySem PySem.W PySem.Calls PyProof.Rows
set_option Elab.async false
set_option linter.unusedVariables false
namespace Mine
open PySem.W.X
/-- a turn of a comprehension: the frame C may change, all else grows -/
noncomputable def CStep (C : Addr) (s s' : Shared) : Prop := ∃ h tk g m, s' = { s with heap := h, toks := tk, gens := g } ∧ GOk s.gens g ∧ (∀ b o, b ≠ C → s.heap.get? b = some o → h.get? b = some o) ∧ h.Ns C m
section
variable {prog : Program} {w : World} {A : Around} {E : Value → Shared → Prop} {R : Result → Shared → Prop} {s : Shared}
theorem compLoop_any {elt target iter : Expr} {ifs : List Expr} {scope : Scope} {pos : Pos} {it acc : Value} {env : Env} (I : Nat → Shared → Prop)
    (turn : ∀ n s, I n s → wpAny (model prog w) A (pyNext it) (fun r s₁ => match r with
      | none => R (.ok .next) s₁
      | some v => wpAny (model prog w) A (letOwnedTupleGo target it v) (fun _ s₁' => wpAny (model prog w) A (assign target env v) (fun _ s₂ =>
          wpAny (model prog w) A (forIn ifs true fun c r => if r = true then do let ok ← isTrue c env (eval c env); pure (ForInStep.yield ok) else pure (ForInStep.yield r)) (fun ok s₃ =>
            if ok = true then wpAny (model prog w) A (eval elt env) (fun x s₄ =>
              wpAny (model prog w) A (call (.builtin "list.append") [acc, x]) (fun _ s₅ => ∃ m, m < n ∧ I m s₅) (notedBy (model prog w) A env fun e s' => R (.error e) s') s₄) (notedBy (model prog w) A env fun e s' => R (.error e) s') s₃
            else ∃ m, m < n ∧ I m s₃) (notedBy (model prog w) A env fun e s' => R (.error e) s') s₂) (notedBy (model prog w) A env fun e s' => R (.error e) s') s₁') (notedBy (model prog w) A env fun e s' => R (.error e) s') s₁) (notedBy (model prog w) A env fun e s' => R (.error e) s') s)
    (n : Nat) (h : I n s) : codeAny (model prog w) A (.compLoop (.ListComp elt [⟨target, iter, ifs, 0⟩] scope pos) 0 it acc env) R s := by
  refine codeAny_loop rfl I (fun n s hI => ?_) n h
  show wpAny _ A ((compTurn (.ListComp elt [⟨target, iter, ifs, 0⟩] scope pos) 0 it acc env).onRaise (fun x => do noteFrame x env; theTreesLotGoes x)) _ _ s
  refine wpAny_noted ?_
  rw [compTurn_list]
  refine wpAny_bind (wpAny_standAt (wpAny_bind (wpAny_mono (turn n s hI) (fun r s₁ h₁ => ?_) fun _ _ h' => h')))
  cases r with
  | none => exact wpAny_pure h₁
  | some v =>
    refine wpAny_bind (wpAny_mono h₁ (fun _ s₁' h₁' => ?_) fun _ _ h' => h')
    refine wpAny_bind (wpAny_mono h₁' (fun _ s₂ h₂ => wpAny_bind (wpAny_mono h₂ (fun ok s₃ h₃ => ?_) fun _ _ h' => h')) fun _ _ h' => h')
    cases ok with
    | true => exact wpAny_bind (wpAny_bind (wpAny_mono h₃ (fun x s₄ h₄ => wpAny_bind (wpAny_mono h₄ (fun _ s₅ h₅ => wpAny_pure (wpAny_pure ⟨rfl, h₅⟩)) fun _ _ h' => h')) fun _ _ h' => h'))
    | false => exact wpAny_pure ⟨rfl, h₃⟩
/-- the addresses of a comprehension's own: its iterator, its frame, its list -/
noncomputable def OwnC (I C D : Addr) (b : Addr) : Prop := b = I ∨ b = C ∨ b = D
/-- what a comprehension's turn is to show -/
noncomputable def CTurn (prog : Program) (w : World) (A : Around) (env : Env) (scope : Scope) (cl : List (Str × Addr)) (target elt : Expr) (ifs : List Expr) (I : Addr) (n : Nat) (P : Nat → Value → Prop) (Acc : (Addr → Prop) → Nat → List Value → Heap → Prop) (s₂ : Shared) : Prop :=
  ∀ C D i v ys m (s₃ : Shared) E', i < n → P i v → (∃ h tk g, s₃ = { s₂ with heap := h, toks := tk, gens := g } ∧ GOk s₂.gens g) → (∀ b o, b ≠ I → s₂.heap.get? b = some o → s₃.heap.get? b = some o) →
    (∀ b, OwnC I C D b → s₃.heap.get? b ≠ none) → s₂.heap.get? C = none → C ≠ I → s₃.heap.Ns C m → Acc (OwnC I C D) i ys s₃.heap →
    wpAny (model prog w) A (assign target (compEnvC scope cl C env) v) (fun _ s₄ =>
      wpAny (model prog w) A (forIn ifs true fun c r => if r = true then do let ok ← isTrue c (compEnvC scope cl C env) (eval c (compEnvC scope cl C env)); pure (ForInStep.yield ok) else pure (ForInStep.yield r)) (fun ok s₅ =>
        if ok = true then wpAny (model prog w) A (eval elt (compEnvC scope cl C env)) (fun y s₆ => CStep C s₃ s₆ ∧ Acc (OwnC I C D) (i + 1) (ys ++ [y]) s₆.heap) E' s₅
        else CStep C s₃ s₅ ∧ Acc (OwnC I C D) (i + 1) ys s₅.heap) E' s₄) E' s₃
set_option maxHeartbeats 1000000 in
theorem block {env : Env} {elt target iter : Expr} {ifs : List Expr} {scope : Scope} {cl : List (Str × Addr)} {pos : Pos} {s₂ : Shared} {I : Addr} {fp : List Addr} {n : Nat} {P : Nat → Value → Prop} {St : Nat → Heap → Prop}
    {RR : Value → Addr → Result → Shared → Prop} (Wk : Walks prog w A I fp [I] n P St) (hsz : n ≤ sizeLine) (hIo : ∀ i h, St i h → ∃ o, h.get? I = some o)
    (hcell : ∀ y ∈ scope.names, y.2 ≠ .cell) (hkind : scope.kind = .function) (hst : St 0 s₂.heap) (hfp : ∀ b ∈ fp, b < s₂.heap.objs.size)
    {P' : Value → Prop} (hgo : ∀ i (s' : Shared) v (Q' : Unit → Shared → Prop) E', St i s'.heap → P' v → Q' () s' → wpAny (model prog w) A (letOwnedTupleGo target (.ref I) v) Q' E' s')
    (hP' : ∀ i v, P i v → P' v)
    (Acc : (Addr → Prop) → Nat → List Value → Heap → Prop) (hAcc : ∀ X i ys h h', (∀ b o, ¬ X b → h.get? b = some o → h'.get? b = some o) → Acc X i ys h → Acc X i ys h')
    (h0 : ∀ X, Acc X 0 [] s₂.heap) (turn : CTurn prog w A env scope cl target elt ifs I n P Acc s₂)
    (fin : ∀ D C h tk g m ys k, (∀ b o, b ≠ I → s₂.heap.get? b = some o → h.get? b = some o) → GOk s₂.gens g → s₂.heap.get? D = none → s₂.heap.get? C = none → D ≠ C → D ≠ I → C ≠ I → h.Ns C m → h.get? D = some (W.listOf ys.toArray k) → ys.length ≤ n → Acc (OwnC I C D) n ys h →
      RR (.ref D) C (.ok .next) { s₂ with heap := h, toks := tk, gens := g }) :
    wpAny (model prog w) A (newList []) (fun acc s₃ => wpAny (model prog w) A (newFunctionEnv scope env.globals cl [] env.qual none .none (some env)) (fun cenv s₄ =>
      codeAny (model prog w) A (.compStart (.ListComp elt [⟨target, iter, ifs, 0⟩] scope pos) 0 (.ref I) acc { cenv with scope := relabel scope env }) (RR acc cenv.locals) s₄) E s₃) E s₂ := by
  refine wpAny_newObj_type (wpAny_newFunctionEnv hcell (by intro y hy; simp at hy) (fun h₁ hns₁ hsb₁ => ?_) hkind)
  dsimp only at hns₁ hsb₁ ⊢
  generalize hH2 : s₂.heap.push { cls := .type "list", dict := none, data := .seq ([] : List Value).toArray } = H2 at hns₁ hsb₁ ⊢
  have hC : H2.objs.size = s₂.heap.objs.size + 1 := by rw [← hH2, Heap.size_push]
  have hDC : s₂.heap.objs.size ≠ H2.objs.size := by rw [hC]; exact Nat.ne_of_lt (Nat.lt_succ_self _)
  have below : ∀ b, b < s₂.heap.objs.size → b ≠ H2.objs.size ∧ b ≠ s₂.heap.objs.size := fun b hb => ⟨by rw [hC]; exact Nat.ne_of_lt (Nat.lt_succ_of_lt hb), Nat.ne_of_lt hb⟩
  have hDf : s₂.heap.objs.size ∉ fp := fun hm => Nat.lt_irrefl _ (hfp _ hm)
  have hCf : H2.objs.size ∉ fp := fun hm => by have := hfp _ hm; rw [hC] at this; exact Nat.lt_irrefl _ (Nat.lt_of_succ_lt this)
  have hIf : I ∈ fp := Wk.sub I (List.mem_singleton.mpr rfl)
  have hIlt : I < s₂.heap.objs.size := hfp I hIf
  have old : ∀ b o, s₂.heap.get? b = some o → h₁.get? b = some o := fun b o e => hsb₁.extBut b o (below b (Heap.lt_size e)).1 (Heap.get?_push_of_some _ (hH2 ▸ Heap.get?_push_of_some _ e))
  have hacc : h₁.get? s₂.heap.objs.size = some (W.listOf #[] 0) := hsb₁.extBut _ _ hDC (Heap.get?_push_of_some _ (hH2 ▸ Heap.get?_push_size _ rfl))
  have fresh : ∀ a, s₂.heap.objs.size ≤ a → s₂.heap.get? a = none := fun a ha => by
    cases e : s₂.heap.get? a with
    | none => rfl
    | some o' => exact absurd (Heap.lt_size e) (Nat.not_lt.mpr ha)
  have hCI : H2.objs.size ≠ I := Ne.symm (below I hIlt).1
  have hDI : s₂.heap.objs.size ≠ I := Ne.symm (below I hIlt).2
  have hC0 : s₂.heap.get? H2.objs.size = none := fresh _ (by rw [hC]; exact Nat.le_succ _)
  have hD0 : s₂.heap.get? s₂.heap.objs.size = none := fresh _ (Nat.le_refl _)
  have hst₁ : St 0 h₁ := Wk.frame _ _ _ hst fun b _ o e => old b o e
  generalize H2.objs.size = C at *
  generalize s₂.heap.objs.size = D at *
  have loop : ∀ s₃ : Shared, s₃ = { s₂ with heap := h₁, toks := s₂.toks + ([] : List (Str × Value)).length } →
      codeAny (model prog w) A (.compLoop (.ListComp elt [⟨target, iter, ifs, 0⟩] scope pos) 0 (.ref I) (.ref D) (compEnvC scope cl C env)) (RR (.ref D) C) s₃ := by
    rintro s₃ rfl
    refine compLoop_any (fun k s' => ∃ h' tk g' i ys m' k', s' = { s₂ with heap := h', toks := tk, gens := g' } ∧ GOk s₂.gens g' ∧ i + k = n ∧ ys.length ≤ i ∧ St i h' ∧ h'.Ns C m' ∧ h'.get? D = some (W.listOf ys.toArray k') ∧ (∀ b o, b ≠ I → s₂.heap.get? b = some o → h'.get? b = some o) ∧ Acc (OwnC I C D) i ys h') ?_ n
      ⟨h₁, _, _, 0, [], _, 0, rfl, GOk.refl _, Nat.zero_add _, Nat.le_refl _, hst₁, hns₁, hacc, fun b o _ e => old b o e, hAcc _ _ _ _ _ (fun b o _ e => old b o e) (h0 _)⟩
    rintro k s' ⟨h', tk, g', i, ys, m', k', rfl, go', hik, hyl, hst', hn', hD', hk', hA'⟩
    by_cases hlt : i < n
    · refine Wk.item i _ _ _ hlt hst' fun v h₂ tk₂ hPv hst₂ hk₂ => ?_
      have hk₂' : ∀ b o, b ≠ I → h'.get? b = some o → h₂.get? b = some o := fun b o hb e => hk₂ b o (by simpa using hb) e
      refine hgo (i + 1) _ v _ _ hst₂ (hP' _ _ hPv) ?_
      have hns₂ : h₂.Ns C m' := hn'.at' fun o e => hk₂' _ o hCI e
      have hD₂ := hk₂' _ _ hDI hD'
      obtain ⟨oI, eI₂⟩ := hIo _ _ hst₂
      obtain ⟨oC, _, _, eC₂, _⟩ := id hns₂
      have hA₂ : Acc (OwnC I C D) i ys h₂ := hAcc _ _ _ _ _ (fun b o hb e => hk₂' b o (fun z => hb (.inl z)) e) hA'
      refine wpAny_mono (turn C D i v ys m' { s₂ with heap := h₂, toks := tk₂, gens := g' } _ hlt hPv ⟨_, _, _, rfl, go'⟩ (fun b o hb e => hk₂' b o hb (hk' b o hb e)) (fun b hb => by
        rcases hb with rfl | rfl | rfl
        · rw [show ({ s₂ with heap := h₂, toks := tk₂, gens := g' } : Shared).heap.get? _ = _ from eI₂]; exact fun z => nomatch z
        · rw [show ({ s₂ with heap := h₂, toks := tk₂, gens := g' } : Shared).heap.get? _ = _ from eC₂]; exact fun z => nomatch z
        · rw [show ({ s₂ with heap := h₂, toks := tk₂, gens := g' } : Shared).heap.get? _ = _ from hD₂]; exact fun z => nomatch z) hC0 hCI hns₂ hA₂) (fun _ s₄ h₄ => wpAny_mono h₄ (fun ok s₅ h₅ => ?_) fun _ _ e => e) fun _ _ e => e
      have next : ∀ ys' k'' (s₆ : Shared) h₇, CStep C { s₂ with heap := h₂, toks := tk₂, gens := g' } s₆ → ys'.length ≤ i + 1 → Acc (OwnC I C D) (i + 1) ys' s₆.heap → (∀ b o, b ≠ D → s₆.heap.get? b = some o → h₇.get? b = some o) → h₇.get? D = some (W.listOf ys'.toArray k'') →
          ∃ m, m < k ∧ ∃ h' tk g' i ys m' k', ({ s₆ with heap := h₇ } : Shared) = { s₂ with heap := h', toks := tk, gens := g' } ∧ GOk s₂.gens g' ∧ i + m = n ∧ ys.length ≤ i ∧ St i h' ∧ h'.Ns C m' ∧ h'.get? D = some (W.listOf ys.toArray k') ∧ (∀ b o, b ≠ I → s₂.heap.get? b = some o → h'.get? b = some o) ∧ Acc (OwnC I C D) i ys h' := by
        rintro ys' k'' s₆ h₇ ⟨h₆, tk₆, g₆, m₆, rfl, go₆, hk₆, hns₆⟩ hyl' hA₆ hk₇ hD₇
        have up : ∀ b o, b ≠ C → b ≠ D → h₂.get? b = some o → h₇.get? b = some o := fun b o b1 b2 e => hk₇ b o b2 (hk₆ b o b1 e)
        refine ⟨k - 1, by (first | lia | omega), h₇, tk₆, g₆, i + 1, ys', m₆, k'', rfl, go'.trans go₆, by (first | lia | omega), hyl', Wk.frame _ _ _ hst₂ fun b hb o e => up b o (fun z => hCf (z ▸ hb)) (fun z => hDf (z ▸ hb)) e, hns₆.at' fun o e => hk₇ _ o (Ne.symm hDC) e, hD₇, fun b o hb e => ?_, hAcc _ _ _ _ _ (fun b o hb e => hk₇ b o (fun z => hb (.inr (.inr z))) e) hA₆⟩
        exact up b o (fun z => by rw [z, hC0] at e; cases e) (fun z => by rw [z, hD0] at e; cases e) (hk₂' b o hb (hk' b o hb e))
      cases ok with
      | true =>
        simp only [if_true] at h₅ ⊢
        refine wpAny_mono h₅ (fun y s₆ h₆ => ?_) fun _ _ e => e
        obtain ⟨hs₆, hA₆⟩ := h₆
        have hD₆ : s₆.heap.get? D = some (W.listOf ys.toArray k') := by
          obtain ⟨h₆, tk₆, g₆, m₆, rfl, _, hk₆, _⟩ := hs₆
          exact hk₆ _ _ hDC hD₂
        refine append_at (hsz := by show ys.toArray.size ≤ sizeLine; rw [List.size_toArray]; (first | lia | omega)) hD₆ fun h₇ hs₇ hD₇ => ?_
        exact next (ys ++ [y]) _ s₆ h₇ hs₆ (by rw [List.length_append, List.length_singleton]; (first | lia | omega)) hA₆ (fun b o hb e => (hs₇.2 b hb).trans e) (hD₇.trans (congrArg some (show W.listOf (ys.toArray.push y) (k' + 1) = W.listOf (ys ++ [y]).toArray (k' + 1) by rw [List.push_toArray])))
      | false =>
        simp only [Bool.false_eq_true, if_false] at h₅ ⊢
        obtain ⟨hs₅, hA₅⟩ := h₅
        have hD₅ : s₅.heap.get? D = some (W.listOf ys.toArray k') := by
          obtain ⟨h₆, tk₆, g₆, m₆, rfl, _, hk₆, _⟩ := hs₅
          exact hk₆ _ _ hDC hD₂
        exact next ys _ s₅ s₅.heap hs₅ (by (first | lia | omega)) hA₅ (fun b o _ e => e) hD₅
    · obtain rfl : i = n := by (first | lia | omega)
      refine Wk.done _ _ _ hst' fun h₂ tk₂ hk₂ => ?_
      have hk₂' : ∀ b o, b ≠ I → h'.get? b = some o → h₂.get? b = some o := fun b o hb e => hk₂ b o (by simpa using hb) e
      exact fin D C h₂ tk₂ g' m' ys k' (fun b o hb e => hk₂' b o hb (hk' b o hb e)) go' hD0 hC0 hDC hDI hCI (hn'.at' fun o e => hk₂' _ o hCI e) (hk₂' _ _ hDI hD') hyl (hAcc _ _ _ _ _ (fun b o hb e => hk₂' b o (fun z => hb (.inl z)) e) hA')
  exact codeAny_compStart_list (loop _ rfl) (Wk.self 0 _ _ _ hst₁ (loop _ rfl))
end
end Mine

end
section
open PySem PySem.W PySem.Calls PyProof.Rows
set_option Elab.async false
set_option linter.unusedVariables false
namespace Mine
open PySem.W.X
theorem strsAre_snoc : ∀ {vs : List Value} {ps : List Str} {y : Str} {t : Tok}, StrsAre vs ps → StrsAre (vs ++ [.str y t]) (ps ++ [y])
  | _, _, _, _, .nil => .cons _ _ .nil
  | _, _, _, _, .cons a b h => .cons a b (strsAre_snoc h)
set_option maxHeartbeats 1000000 in
theorem block_gen {w : World} {mg mb : Str → Option Value} {A : Around} {E : Value → Shared → Prop} {env : Env} {iter : Expr} {xi xv : Str} {pi pv pt pe pos : Pos} {x1 : Nat} {scope : Scope} {cl : List (Str × Addr)} {s₂ : Shared} {h₀ : Heap} {a g : Addr} {own : List (Addr × Obj)} {its : List (Int × Str)}
    {RR : Value → Addr → Result → Shared → Prop} (X : (Mine.K2 w.params).In h₀) (T : TopRead Mine.myView LS mg mb h₀) (hh : A.handled = none) (hd : A.depth ≤ 900) (hu : A.units + 1 ≤ 8000)
    (G : GenSt w mg mb a g own its s₂) (hk0 : Kp h₀ s₂.heap) (ha0 : h₀.get? a = none) (hown : ∀ p ∈ own, h₀.get? p.1 = none) (hao : a ∉ own.map (·.1)) (hsz : its.length ≤ 1100000)
    (hcell : ∀ y ∈ scope.names, y.2 ≠ .cell) (hkind : scope.kind = .function) (hxi : scope.names.lookup xi = some .local) (hxv : scope.names.lookup xv = some .local) (hde : (xv == ("__debug__" : Str)) = false)
    (fin : ∀ D C h tk g' m ys k, Kp h₀ h → GOk s₂.gens g' → h₀.get? D = none → h₀.get? C = none → D ≠ C → h.Ns C m → h.get? D = some (W.listOf ys.toArray k) → StrsAre ys (its.map (·.2)) →
      RR (.ref D) C (.ok .next) { s₂ with heap := h, toks := tk, gens := g' }) :
    wpAny (model PySem.Challenge.rw_om0053_01.prog w) A (newList []) (fun acc s₃ => wpAny (model PySem.Challenge.rw_om0053_01.prog w) A (newFunctionEnv scope env.globals cl [] env.qual none .none (some env)) (fun cenv s₄ =>
      codeAny (model PySem.Challenge.rw_om0053_01.prog w) A (.compStart (.ListComp (.Name xv pe) [⟨.Tuple [.Name xi pi, .Name xv pv] x1 pt, iter, [], 0⟩] scope pos) 0 (.ref a) acc { cenv with scope := relabel scope env }) (RR acc cenv.locals) s₄) E s₃) E s₂ := by
  refine wpAny_newObj_type (wpAny_newFunctionEnv hcell (by intro y hy; simp at hy) (fun h₁ hns₁ hsb₁ => ?_) hkind)
  dsimp only at hns₁ hsb₁ ⊢
  generalize hH2 : s₂.heap.push { cls := .type "list", dict := none, data := .seq ([] : List Value).toArray } = H2 at hns₁ hsb₁ ⊢
  have hC : H2.objs.size = s₂.heap.objs.size + 1 := by rw [← hH2, Heap.size_push]
  have hDC : s₂.heap.objs.size ≠ H2.objs.size := by rw [hC]; exact Nat.ne_of_lt (Nat.lt_succ_self _)
  have below : ∀ b, b < s₂.heap.objs.size → b ≠ H2.objs.size ∧ b ≠ s₂.heap.objs.size := fun b hb => ⟨by rw [hC]; exact Nat.ne_of_lt (Nat.lt_succ_of_lt hb), Nat.ne_of_lt hb⟩
  have old : ∀ b o, s₂.heap.get? b = some o → h₁.get? b = some o := fun b o e => hsb₁.extBut b o (below b (Heap.lt_size e)).1 (Heap.get?_push_of_some _ (hH2 ▸ Heap.get?_push_of_some _ e))
  have hacc : h₁.get? s₂.heap.objs.size = some (W.listOf #[] 0) := hsb₁.extBut _ _ hDC (Heap.get?_push_of_some _ (hH2 ▸ Heap.get?_push_size _ rfl))
  have fresh : ∀ b, s₂.heap.objs.size ≤ b → s₂.heap.get? b = none := fun a ha => by
    cases e : s₂.heap.get? a with
    | none => rfl
    | some o' => exact absurd (Heap.lt_size e) (Nat.not_lt.mpr ha)
  have f0 : ∀ b, s₂.heap.get? b = none → h₀.get? b = none := fun b hb => by
    cases e : h₀.get? b with
    | none => rfl
    | some o' => rw [hk0 _ _ e] at hb; cases hb
  obtain ⟨oa, nma, qna, ea, ra⟩ := G.isgen
  have hCa : a ≠ H2.objs.size := (below a (Heap.lt_size ea)).1
  have hDa : a ≠ s₂.heap.objs.size := (below a (Heap.lt_size ea)).2
  have hC0 := fresh H2.objs.size (by rw [hC]; exact Nat.le_succ _)
  have hD0 := fresh s₂.heap.objs.size (Nat.le_refl _)
  have hoff : ∀ p ∈ own, p.1 ≠ H2.objs.size ∧ p.1 ≠ s₂.heap.objs.size := fun p hp => below _ (Heap.lt_size (G.held p hp))
  have G1 : GenSt w mg mb a g own its { s₂ with heap := h₁, toks := s₂.toks + ([] : List (Str × Value)).length } := ⟨⟨oa, nma, qna, old _ _ ea, ra⟩, fun p hp => old _ _ (G.held p hp), G.run⟩
  generalize H2.objs.size = C at *
  generalize s₂.heap.objs.size = D at *
  clear hH2 hC below fresh
  have loop : ∀ s₃ : Shared, s₃ = { s₂ with heap := h₁, toks := s₂.toks + ([] : List (Str × Value)).length } →
      codeAny (model PySem.Challenge.rw_om0053_01.prog w) A (.compLoop (.ListComp (.Name xv pe) [⟨.Tuple [.Name xi pi, .Name xv pv] x1 pt, iter, [], 0⟩] scope pos) 0 (.ref a) (.ref D) (compEnvC scope cl C env)) (RR (.ref D) C) s₃ := by
    rintro s₃ rfl
    refine compLoop_any (fun n s' => ∃ h' tk g' own items ys ss m k, s' = { s₂ with heap := h', toks := tk, gens := g' } ∧ items.length = n ∧ GenSt w mg mb a g own items s' ∧ GOk s₂.gens g' ∧ Kp h₀ h' ∧ a ∉ own.map (·.1) ∧ (∀ p ∈ own, h₀.get? p.1 = none ∧ p.1 ≠ C ∧ p.1 ≠ D) ∧
      h'.Ns C m ∧ h'.get? D = some (W.listOf ys.toArray k) ∧ StrsAre ys ss ∧ ss ++ items.map (·.2) = its.map (·.2)) ?_ its.length
      ⟨h₁, _, _, own, its, [], [], _, 0, rfl, rfl, G1, GOk.refl _, fun b o e => old _ _ (hk0 _ _ e), hao, fun p hp => ⟨hown p hp, hoff p hp⟩, hns₁, hacc, .nil, rfl⟩
    rintro n s' ⟨h', tk', g1, own', items, ys, ss, m', k', rfl, hn, G', go', kp', hao', ho', hns', hD', hst', hit'⟩
    have offm : ∀ b, (∀ p ∈ own', p.1 ≠ b) → b ∉ own'.map (·.1) := fun b hb hm => by
      obtain ⟨p, hp, e⟩ := List.mem_map.mp hm
      exact hb p hp e
    have cC := offm C fun p hp => (ho' p hp).2.1
    have cD := offm D fun p hp => (ho' p hp).2.2
    have c0 : ∀ b o, h₀.get? b = some o → b ∉ own'.map (·.1) := fun b o e => offm b fun p hp z => by have := (ho' p hp).1; rw [z, e] at this; cases this
    refine next_gen G' (X.keeps kp') (T.keeps kp') hh hd hu (fun hi h'' tk'' g2 go2 hkk => ?_) (fun i c r hi h'' tk'' g2 own'' Ta t1 t2 go2 hkk hTa eTa hl3 hTo hoo hoh G'' => ?_) hao'
    · subst hi
      rw [List.map_nil, List.append_nil] at hit'
      exact fin D C h'' tk'' g2 m' ys k' (fun b o e => hkk b o (c0 b o e) (kp' _ _ e)) (go'.trans go2) (f0 _ hD0) (f0 _ hC0) hDC (hns'.at' fun o e => hkk _ o cC e) (hkk _ _ cD hD') (hit' ▸ hst')
    · subst hi
      refine letGo_gen G''.isgen ?_
      refine assign2 (env := compEnvC scope cl C env) hh (hns'.at' fun o e => hkk _ o cC e) ⟨_, eTa, rfl, 0, rfl⟩ (lookup_relabel_local hxi) (lookup_relabel_local hxv) (by simp [compEnvC, relabel, hkind]) fun h3 tk3 hn3 hk3 => ?_
      have hk3' : ∀ b o, b ≠ C → h''.get? b = some o → h3.get? b = some o := hk3
      have hn3' : h3.Ns C _ := hn3
      refine wpAny_tests_nil ?_
      simp only [if_true]
      refine wpAny_Name (wpAny_loadName_local (v := .str c t2) (by show (relabel scope env).kind = _; exact hkind) (lookup_relabel_local hxv) hn3 (by simp) ?_) hde
      have hD3 := hk3' _ _ hDC (hkk _ _ cD hD')
      have hyl : ys.length ≤ 1100000 := by
        have h1 := hst'.length
        have h2 := congrArg List.length hit'
        rw [List.length_append, List.length_map, List.length_map] at h2
        (first | lia | omega)
      refine append_at (hsz := by show ys.toArray.size ≤ sizeLine; rw [List.size_toArray, sizeLine_eq]; (first | lia | omega)) hD3 fun h4 hs4 hD4 => ?_
      have up : ∀ b o, b ≠ C → b ≠ D → h''.get? b = some o → h4.get? b = some o := fun b o b1 b2 e => (hs4.2 b b2).trans (hk3' b o b1 e)
      have hof : ∀ p ∈ own'', h₀.get? p.1 = none ∧ p.1 ≠ C ∧ p.1 ≠ D := fun p hp => by
        rcases hoo p hp with h | h
        · obtain ⟨p', hp', e⟩ := List.mem_map.mp h
          rw [← e]; exact ho' p' hp'
        · have h : h'.get? p.1 = none := h
          refine ⟨?_, fun z => ?_, fun z => by rw [z, hD'] at h; cases h⟩
          · cases e : h₀.get? p.1 with
            | none => rfl
            | some o => rw [kp' _ _ e] at h; cases h
          · obtain ⟨_, _, _, e, _⟩ := hns'; rw [← z, h] at e; cases e
      have oa'' : a ∉ own''.map (·.1) := fun hm => by
        obtain ⟨p, hp, e⟩ := List.mem_map.mp hm
        rcases hoo p hp with h | h
        · exact hao' (e ▸ h)
        · obtain ⟨_, _, _, e2, _⟩ := G'.isgen; rw [← e, h] at e2; cases e2
      obtain ⟨oa', nm, qn, ea', ra'⟩ := G''.isgen
      have haC : a ≠ C := hCa
      refine ⟨r.length, by rw [← hn]; exact Nat.lt_succ_self _, h4, tk3, g2, own'', r, ys ++ [.str c t2], ss ++ [c], _, k' + 1, rfl, rfl, ⟨⟨oa', nm, qn, up _ _ haC hDa ea', ra'⟩, fun p hp => up _ _ (hof p hp).2.1 (hof p hp).2.2 (hoh p hp), G''.run⟩, go'.trans go2, fun b o e => ?_, oa'', hof, hn3'.at' fun o e => (hs4.2 _ (Ne.symm hDC)).trans e, ?_, strsAre_snoc hst', ?_⟩
      · exact up b o (fun z => by rw [z, f0 _ hC0] at e; cases e) (fun z => by rw [z, f0 _ hD0] at e; cases e) (hkk b o (c0 b o e) (kp' _ _ e))
      · exact hD4.trans (congrArg some (show W.listOf (ys.toArray.push _) (k' + 1) = W.listOf (ys ++ [_]).toArray (k' + 1) by rw [List.push_toArray]))
      · rw [List.append_assoc]; exact hit'
  refine codeAny_compStart_list (loop _ rfl) (wpAny_pyIter_gen G1.isgen (loop _ rfl))
end Mine

end
section
open PySem PySem.W PySem.Calls PyProof.Rows
set_option Elab.async false
set_option linter.unusedVariables false
namespace Mine
open PySem.W.X
local macro_rules | `(tactic| walk_at "eval ListComp") => `(tactic| (k_here; refine Halt.mk ?_))
local macro_rules | `(tactic| walk_at "eval ListComp Name") => `(tactic| (k_here; refine Halt.mk ?_))
local macro_rules | `(tactic| walk_at "call ref") => `(tactic| (k_here; (with_reducible show wpAny _ _ (call (Value.ref 51) _) _ _ _); refine Halt.mk ?_))
noncomputable def readOf (x : Str) : Int × Int := walkOf ((escItems (stripOf x)).map (·.2))
theorem keep28 : ∀ p : Params, keepIn (Mine.K2 p) (.ref 28) = true := by k_fill; intro p; kernel_rfl
theorem name28 : ∀ p : Params, nsIn (Mine.K2 p) mainGlobals (Str.ofString "_strip_quoted_realnames") = some (some (.ref 28)) := by k_fill; intro p; kernel_rfl
set_option maxRecDepth 100000 in
set_option maxHeartbeats 8000000 in
theorem read_spec0 : ∀ (w : World) (mg mb : Str → Option Value) (s : Shared) (Q E : Value → Shared → Prop) (x : Str) (t : Tok),
    (Mine.K2 w.params).In s.heap → TopRead Mine.myView LS mg mb s.heap → Asc x → x.length ≤ 1000 →
    (∀ (a' : Addr) (h' : Heap) (tk : Nat) (g' : Array GenState), Kp s.heap h' → GOk s.gens g' → s.heap.get? a' = none → L2 h' a' (readOf x) → Q (.ref a') { s with heap := h', toks := tk, gens := g' }) →
    wpAny (model PySem.Challenge.rw_om0053_01.prog w) (AA 18) (call (.ref 115) [.str x t]) Q E s := by
  k_fill
  intro w mg mb s Q E x t X T hasc hlen hret
  refine wpAny_call ?_
  k_dflt (refine' call_plain (binds := [(Str.ofString "piece", .str x t)]) ?k1 ?k2 ?k3 ?k4 ?k5 ?k6 ?k7 ?_ ?c1 ?c2 ?c3 ?c4; (case k2 => exact X _ _ (by k_is)); (case k3 => exact rfl); (case k1 => decide); (case k4 => exact T.nolimit); (case k5 => exact codeRec_of X (by k_is)); (case k6 => exact rfl); (case k7 => exact locs rfl); (case c1 => exact rfl); (case c2 => exact rfl); (case c3 => exact rfl); (case c4 => decide))
  intro h1 F1
  k_fold
  have N1 : News s.heap s.heap.objs.size h1 [] := News.nil
  k_steps
  have hs := strip_ok hasc hlen
  refine Halt.go ?_
  rw [eval_ListComp]
  refine wpAny_comprehension_free (use := none) (cl := []) rfl (fun _ => rfl) rfl rfl (by decide) (wpAny_mono (iter_eval F1 X T rfl (Nat.le_of_ble_eq_true rfl) (Nat.le_of_ble_eq_true rfl) hs.1.all (by (first | lia | omega)) ?strip) (fun v s₁ hv => ?_) (fun _ _ x => x))
  case strip =>
    refine Call_ (name_K F1 X T (name28 _) ?_)
    refine callWith_K (K := Mine.K2 w.params) X (keep28 _) (args_cons (ld F1 rfl (args_nil ⟨X.keeps F1.keep, ?_⟩)))
    refine AA_mono 23 (strip_spec w mg mb x t hasc.all hlen _ _ _ (X.keeps F1.keep) (T.keeps F1.keep) trivial fun v h' tk g' kp go po => ?_) rfl (Nat.le_of_ble_eq_true rfl) (Nat.le_of_ble_eq_true rfl)
    obtain ⟨t2, rfl⟩ := po
    exact ⟨t2, h', tk, g', rfl, rfl, kp, go⟩
  obtain ⟨a, own, g, h2, tk2, g2, rfl, rfl, G, k2, go2, ha, hown, hao⟩ := hv
  have k2' : Kp s.heap h2 := fun b o e => k2 _ _ (F1.keep _ _ e)
  have n0 : ∀ {b : Addr}, h1.get? b = none → s.heap.get? b = none := fun {b} hb => by
    cases e : s.heap.get? b with
    | none => rfl
    | some o' => rw [F1.keep _ _ e] at hb; cases hb
  refine wpAny_pyIter_gen G.isgen ?_
  have hil := escItems_len (stripOf x)
  refine block_gen X T rfl (Nat.le_of_ble_eq_true rfl) (Nat.le_of_ble_eq_true rfl) G k2' (n0 ha) (fun p hp => n0 (hown p hp)) hao (by (first | lia | omega)) (by decide) rfl rfl rfl (by decide) fun D C h3 tk3 g3 m3 ys k3 kp3 go3 hD hC hDC hns3 eD3 hst3 => ?_
  refine ⟨m3, hns3, fun h4 hs4 => ?_⟩
  have kp4 : Kp s.heap h4 := fun b o e => (hs4.2 b (fun z => by rw [z, hC] at e; cases e)).trans (kp3 _ _ e)
  have eD4 := (hs4.2 D hDC).trans eD3
  refine args_cons (List_ (spliced_more (wpAny_Constant_int (spliced_more (wpAny_Constant_int (spliced_none (wpAny_newList ?_)))))))
  have kp5 : Kp s.heap (h4.push { cls := .type "list", data := .seq #[.int 0 tk3, .int 0 (tk3 + 1)] }) := fun b o e => Heap.get?_push_of_some _ (kp4 _ _ e)
  refine args_nil ⟨X.keeps kp5, ?_⟩
  refine AA_mono 19 (reduce_spec0 w mg mb _ _ _ D h4.objs.size ys.toArray ((escItems (stripOf x)).map (·.2)) (X.keeps kp5) (T.keeps kp5) ⟨_, Heap.get?_push_of_some _ eD4, rfl, _, rfl⟩ hst3 ⟨_, _, _, Heap.get?_push_size _ rfl, rfl, _, rfl⟩ fun a6 h6 tk6 g6 kp6 go6 hfr6 hL6 => ?_) rfl (Nat.le_of_ble_eq_true rfl) (Nat.le_of_ble_eq_true rfl)
  refine hret a6 h6 _ g6 (fun b o e => kp6 _ _ (kp5 _ _ e)) (go2.trans (go3.trans go6)) ?_ hL6
  cases e : s.heap.get? a6 with
  | none => rfl
  | some o =>
    rcases hfr6 with rfl | hfr6
    · exact absurd (Heap.lt_size (kp4 _ _ e)) (Nat.lt_irrefl _)
    · rw [show ({ s with heap := h4.push _, toks := _, gens := g3 } : Shared).heap.get? a6 = _ from kp5 _ _ e] at hfr6; cases hfr6
end Mine

end
section
open PySem PySem.W PySem.Calls PyProof.Rows
set_option Elab.async false
set_option linter.unusedVariables false
namespace Mine
open PySem.W.X
open PySem.AutoSeq1 (wpAny_loadPart')
section
variable {prog : Program} {w : World} {A : Around} {E : Value → Shared → Prop} {s : Shared}
theorem nextT_item {it l : Addr} {i : Nat} {items : Array Value} {x : Value} {Q : Value → Shared → Prop} (hit : s.heap.IsTupleIter it l i) (hl : s.heap.IsTuple l items) (hx : items[i]? = some x)
    (hQ : ∀ h', h'.IsTupleIter it l (i + 1) → Heap.SameBut it s.heap h' → Q x { s with heap := h' }) :
    wpAny (model prog w) A (Builtin.SmallTypes.nextOf (.ref it)) Q E s := by
  obtain ⟨o, ho, hc, hd⟩ := id hit
  obtain ⟨ol, hol, _, nl, hdl⟩ := hl
  unfold Builtin.SmallTypes.nextOf
  refine wpAny_bind (wpAny_callSpecial?_slot (name := Str.ofString "__next__") hit.typeIs F.slot_tuple_iterator_next
    (wpAny_call_entry F.slot_tuple_iterator_next hit.typeIs F.entry_tuple_iterator_next ?_ (F.args_tuple_iterator_next_1 _)))
  show wpAny _ _ (field (.ref it) 0 >>= _) _ _ s
  refine wpAny_bind (wpAny_field ho hd (x := .ref l) rfl ?_)
  show wpAny _ _ (if (Value.ref l == Value.none) = true then _ else _) _ _ s
  rw [if_neg (show ¬ ((Value.ref l == Value.none) = true) from Bool.false_ne_true)]
  show wpAny _ _ (field (.ref it) 1 >>= _) _ _ s
  refine wpAny_bind (wpAny_field ho hd (x := .int i 0) rfl ?_)
  show wpAny _ _ (seqItems? (.ref l) >>= _) _ _ s
  refine wpAny_bind (wpAny_seqItems hol hdl ?_)
  simp only [Int.toNat_natCast, hx]
  refine wpAny_bind (wpAny_setField ho hd (by simp) (wpAny_pure ⟨x, rfl, wpAny_pure (hQ _ ?_ (Heap.SameBut.update ..))⟩))
  exact ⟨_, Heap.get?_update_self _ ho (Obj.isFreed_of_fields (Obj.data_mapFields hd _)), (Obj.cls_mapFields ..).trans hc, by
    rw [Obj.data_mapFields hd]; simp [rawInt]⟩
theorem nextT_end {it l : Addr} {i : Nat} {items : Array Value} {Q : Value → Shared → Prop} (hh : A.handled = none) (hit : s.heap.IsTupleIter it l i) (hl : s.heap.IsTuple l items) (hx : items[i]? = none)
    (hE : ∀ h' e, Heap.ExtBut it s.heap h' → (∃ o, h'.get? e = some o ∧ o.cls = .type "StopIteration") → E (.ref e) { s with heap := h' }) :
    wpAny (model prog w) A (Builtin.SmallTypes.nextOf (.ref it)) Q E s := by
  obtain ⟨o, ho, hc, hd⟩ := id hit
  obtain ⟨ol, hol, _, nl, hdl⟩ := hl
  unfold Builtin.SmallTypes.nextOf
  refine wpAny_bind (wpAny_callSpecial?_slot (name := Str.ofString "__next__") hit.typeIs F.slot_tuple_iterator_next
    (wpAny_call_entry F.slot_tuple_iterator_next hit.typeIs F.entry_tuple_iterator_next ?_ (F.args_tuple_iterator_next_1 _)))
  show wpAny _ _ (field (.ref it) 0 >>= _) _ _ s
  refine wpAny_bind (wpAny_field ho hd (x := .ref l) rfl ?_)
  show wpAny _ _ (if (Value.ref l == Value.none) = true then _ else _) _ _ s
  rw [if_neg (show ¬ ((Value.ref l == Value.none) = true) from Bool.false_ne_true)]
  show wpAny _ _ (field (.ref it) 1 >>= _) _ _ s
  refine wpAny_bind (wpAny_field ho hd (x := .int i 0) rfl ?_)
  show wpAny _ _ (seqItems? (.ref l) >>= _) _ _ s
  refine wpAny_bind (wpAny_seqItems hol hdl ?_)
  simp only [Int.toNat_natCast, hx]
  refine wpAny_bind (wpAny_rule (wpAny_bind (wpAny_setField ho hd (by simp) ?_)))
  show wpAny _ _ (newExc (.type "StopIteration") [] >>= _) _ _ _
  refine wpAny_bind ?_
  simp only [newExc, newTuple]
  refine wpAny_bind (wpAny_newObj_type ?_ (by size_fits))
  refine wpAny_bind (m := firstArgMember _ _) (wpAny_of_eq (a := Value.none) (by first | rfl | (simp only [firstArgMember]; rfl)) ?_)
  refine wpAny_newObj_type ?_ (by size_fits)
  simp only [raiseNew]
  refine wpAny_bind (wpAny_handled ?_)
  first | rw [show A.in1.handled = none from hh] | rw [hh]
  refine wpAny_bind (wpAny_pure (wpAny_throw ?_))
  exact hE _ _ (((Heap.SameBut.update ..).extBut.push _).push _) ⟨_, Heap.get?_push_size _ rfl, rfl⟩
/-- next of enumerate over a text -/
theorem enumT_item {e it l : Addr} {i : Nat} {items : Array Value} {x old : Value} {Q : Option Value → Shared → Prop}
    (he : IsEnum s.heap e it i old) (hit : s.heap.IsTupleIter it l i) (hl : s.heap.IsTuple l items) (hx : items[i]? = some x) (hne : e ≠ it)
    (hQ : ∀ h' tk ti T, s.heap.get? T = none → IsEnumOut h' e it ((i : Int) + 1) x T → h'.IsTupleIter it l (i + 1) →
      h'.get? T = some { cls := .type "tuple", data := .seq #[.int i ti, x] } →
      (∀ b o, b ≠ e → b ≠ it → s.heap.get? b = some o → h'.get? b = some o) → Q (some (.ref T)) { s with heap := h', toks := tk }) :
    wpAny (model prog w) A (pyNext (.ref e)) Q E s := by
  have hT : s.TypeIs (.ref e) "enumerate" := ⟨_, he, rfl⟩
  unfold pyNext
  refine wpAny_bind (wpAny_attempt (wpAny_callSpecial?_slot (name := Str.ofString "__next__") hT F.slot_enumerate_next
    (wpAny_call_entry F.slot_enumerate_next hT F.entry_enumerate_next ?_ (F.args_enumerate_next_1 _))))
  obtain ⟨hp, g, d, tk, os⟩ := s
  show wpAny _ _ (field (.ref e) 2 >>= _) _ _ _
  refine wpAny_bind (wpAny_field he rfl (x := .ref it) rfl ?_)
  refine wpAny_bind (nextT_item hit hl hx fun h₁ hit₁ hs₁ => ?_)
  replace hs₁ : Heap.SameBut it hp h₁ := hs₁
  have he₁ : IsEnum h₁ e it i old := (hs₁.2 e hne).trans he
  have hel : e < hp.objs.size := Heap.lt_size he
  have hnone : hp.get? hp.objs.size = none := by
    cases q : hp.get? hp.objs.size with
    | none => rfl
    | some o => exact absurd (Heap.lt_size q) (Nat.lt_irrefl _)
  show wpAny _ _ (field (.ref e) 3 >>= _) _ _ ⟨h₁, g, d, tk, os⟩
  refine wpAny_bind (wpAny_field he₁ rfl (x := rawInt i) rfl ?_)
  show wpAny _ _ (field (.ref e) 4 >>= _) _ _ ⟨h₁, g, d, tk, os⟩
  refine wpAny_bind (wpAny_field he₁ rfl (x := .none) rfl ?_)
  show wpAny _ _ (mkInt i >>= _) _ _ ⟨h₁, g, d, tk, os⟩
  refine wpAny_bind (wpAny_mkInt ?_)
  show wpAny _ _ (setField (.ref e) 3 (rawInt ((i : Int) + 1)) >>= _) _ _ ⟨h₁, g, d, tk + 1, os⟩
  refine wpAny_bind (wpAny_setField_rec he₁ (by simp) fun h₂ he₂ hs₂ => ?_)
  replace hs₂ : Heap.SameBut e h₁ h₂ := hs₂
  replace he₂ : IsEnum h₂ e it ((i : Int) + 1) old := he₂
  show wpAny _ _ (setField (.ref e) 4 .none >>= _) _ _ ⟨h₂, g, d, tk + 1, os⟩
  refine wpAny_bind (wpAny_setField_rec he₂ (by simp) fun h₃ he₃ hs₃ => ?_)
  replace hs₃ : Heap.SameBut e h₂ h₃ := hs₃
  replace he₃ : IsEnum h₃ e it ((i : Int) + 1) old := he₃
  show wpAny _ _ (newTuple [.int i tk, x] >>= _) _ _ ⟨h₃, g, d, tk + 1, os⟩
  refine wpAny_bind (wpAny_newTuple ?_)
  have hsz : h₃.objs.size = hp.objs.size := by rw [hs₃.1, hs₂.1, hs₁.1]
  have k₃ : ∀ b o, b ≠ e → b ≠ it → hp.get? b = some o → h₃.get? b = some o := fun b o b1 b2 q => hs₃.extBut b o b1 (hs₂.extBut b o b1 (hs₁.extBut b o b2 q))
  have hit₃ : h₃.IsTupleIter it l (i + 1) := (hit₁.extBut hs₂.extBut (Ne.symm hne)).extBut hs₃.extBut (Ne.symm hne)
  have hT₃ : e ≠ h₃.objs.size := by rw [hsz]; exact Nat.ne_of_lt hel
  have hI₃ : it ≠ h₃.objs.size := by obtain ⟨o, ho, _⟩ := hit₃; exact Nat.ne_of_lt (Heap.lt_size ho)
  have he₄ : IsEnum (h₃.push { cls := .type "tuple", data := .seq #[.int i tk, x] }) e it ((i : Int) + 1) old := Heap.get?_push_of_some _ he₃
  have ht₄ : (h₃.push { cls := .type "tuple", data := .seq #[.int i tk, x] }).get? h₃.objs.size = some { cls := .type "tuple", data := .seq #[.int i tk, x] } := Heap.get?_push_size _ rfl
  have k₄ : ∀ b o, b ≠ e → b ≠ it → hp.get? b = some o → (h₃.push { cls := .type "tuple", data := .seq #[.int i tk, x] }).get? b = some o := fun b o b1 b2 q => Heap.get?_push_of_some _ (k₃ b o b1 b2 q)
  have hit₄ : (h₃.push { cls := .type "tuple", data := .seq #[.int i tk, x] }).IsTupleIter it l (i + 1) := by
    obtain ⟨o, ho, r⟩ := hit₃; exact ⟨o, Heap.get?_push_of_some _ ho, r⟩
  have hnone₃ : hp.get? h₃.objs.size = none := by rw [hsz]; exact hnone
  generalize h₃.push { cls := .type "tuple", data := .seq #[.int i tk, x] } = h₄ at he₄ ht₄ k₄ hit₄ ⊢
  generalize h₃.objs.size = T at hT₃ hI₃ ht₄ hnone₃ ⊢
  show wpAny _ _ (Builtin.SmallTypes.ownedTupleIsFree (.ref e) >>= _) _ _ ⟨h₄, g, d, tk + 1, os⟩
  refine wpAny_bind ?_
  unfold Builtin.SmallTypes.ownedTupleIsFree
  refine wpAny_bind (wpAny_field he₄ rfl (x := .none) rfl (wpAny_pure ?_))
  simp only [if_true]
  refine wpAny_bind (wpAny_rule ?_)
  refine wpAny_bind (wpAny_field he₄ rfl (x := old) rfl ?_)
  refine wpAny_bind (wpAny_setField_rec he₄ (by simp) fun h₅ he₅ hs₅ => ?_)
  replace hs₅ : Heap.SameBut e h₄ h₅ := hs₅
  replace he₅ : IsEnum h₅ e it ((i : Int) + 1) x := he₅
  show wpAny _ _ (Builtin.SmallTypes.ownedTupleHandOut (.ref e) (.ref T) >>= _) _ _ ⟨h₅, g, d, tk + 1, os⟩
  refine wpAny_bind ?_
  unfold Builtin.SmallTypes.ownedTupleHandOut
  refine wpAny_bind (wpAny_setField_rec he₅ (by simp) fun h₆ he₆ hs₆ => ?_)
  replace hs₆ : Heap.SameBut e h₅ h₆ := hs₆
  replace he₆ : IsEnumOut h₆ e it ((i : Int) + 1) x T := he₆
  refine wpAny_setField_rec he₆ (by simp) fun h₇ he₇ hs₇ => ?_
  replace hs₇ : Heap.SameBut e h₆ h₇ := hs₇
  replace he₇ : IsEnumOut h₇ e it ((i : Int) + 1) x T := he₇
  refine wpAny_bind (wpAny_letGo (wpAny_pure ⟨_, rfl, wpAny_pure (hQ h₇ _ tk T hnone₃ he₇ ?_ ?_ ?_)⟩))
  · exact ((hit₄.extBut hs₅.extBut (Ne.symm hne)).extBut hs₆.extBut (Ne.symm hne)).extBut hs₇.extBut (Ne.symm hne)
  · exact hs₇.extBut _ _ (Ne.symm hT₃) (hs₆.extBut _ _ (Ne.symm hT₃) (hs₅.extBut _ _ (Ne.symm hT₃) ht₄))
  · exact fun b o hbe hbi hb => hs₇.extBut b o hbe (hs₆.extBut b o hbe (hs₅.extBut b o hbe (k₄ b o hbe hbi hb)))
theorem enumT_end {e it l : Addr} {i : Nat} {items : Array Value} {old : Value} {Q : Option Value → Shared → Prop} (hh : A.handled = none)
    (he : IsEnum s.heap e it i old) (hit : s.heap.IsTupleIter it l i) (hl : s.heap.IsTuple l items) (hx : items[i]? = none)
    (hQ : ∀ h', Heap.ExtBut it s.heap h' → Q none { s with heap := h' }) : wpAny (model prog w) A (pyNext (.ref e)) Q E s := by
  have hT : s.TypeIs (.ref e) "enumerate" := ⟨_, he, rfl⟩
  unfold pyNext
  refine wpAny_bind (wpAny_attempt (wpAny_callSpecial?_slot (name := Str.ofString "__next__") hT F.slot_enumerate_next
    (wpAny_call_entry F.slot_enumerate_next hT F.entry_enumerate_next ?_ (F.args_enumerate_next_1 _))))
  show wpAny _ _ (field (.ref e) 2 >>= _) _ _ _
  refine wpAny_bind (wpAny_field he rfl (x := .ref it) rfl ?_)
  refine wpAny_bind (nextT_end hh hit hl hx fun h' x he' hx' => ?_)
  obtain ⟨o, ho, hc⟩ := hx'
  refine wpAny_bind (wpAny_isInstance (T := "StopIteration") (b := true) ⟨o, ho, hc⟩ isSubtype_stop ?_)
  exact wpAny_pure (hQ _ he')
set_option maxRecDepth 100000 in
theorem enumT_new (l : Addr) (items : Array Value) (n : Nat) (dct : Option Addr) (sl : Array (Option Value)) :
    Meets (Builtin.«enumerate.__new__» ⟨[.type "enumerate", .ref l], []⟩) (fun _ R s => s.heap.get? l = some { cls := .type "tuple", dict := dct, data := .seq items n, slots := sl } ∧
      R (.ok (.ret (.ref (s.heap.push { cls := .type "tuple_iterator", data := .fields #[.ref l, .int 0 0] }).objs.size)))
        { s with heap := (s.heap.push { cls := .type "tuple_iterator", data := .fields #[.ref l, .int 0 0] }).push { cls := .type "enumerate", data := .fields #[.none, .bool false, .ref s.heap.objs.size, rawInt 0, .none, .none] } }) :=
  .of_wp fun prog w A R s h => by
    obtain ⟨hp, g, d, tk, os⟩ := s; obtain ⟨hl, h⟩ := h
    have hsub := sub_enumerate
    have hL : Heap.IsTuple (Shared.heap ⟨hp, g, d, tk, os⟩) l items := ⟨_, hl, rfl, n, rfl⟩
    wp_walk using wpAny_loadPart' hl
    refine wpAny_stack_any fun st => wpAny_pure ?_
    split
    · rename_i c _ _ _ _ _
      cases (c == Value.type "enumerate")
      · wp_walk using wpAny_loadPart' hl, wpAny_pyIter_tuple hL
        exact ⟨_, rfl, h⟩
      · wp_walk using wpAny_loadPart' hl, wpAny_pyIter_tuple hL
        exact ⟨_, rfl, h⟩
    · wp_walk using wpAny_loadPart' hl, wpAny_pyIter_tuple hL
      exact ⟨_, rfl, h⟩
theorem call_enumT {l : Addr} {items : Array Value} {Q : Value → Shared → Prop} (hL : s.heap.IsTuple l items)
    (h : ∀ h' e it, e ≠ it → s.heap.get? e = none → s.heap.get? it = none → IsEnum h' e it 0 .none → h'.IsTupleIter it l 0 →
      (∀ b o, s.heap.get? b = some o → h'.get? b = some o) → Q (.ref e) { s with heap := h' }) :
    wpAny (model prog w) A (call (.type "enumerate") [.ref l]) Q E s := by
  obtain ⟨⟨c, dct, dt, sl⟩, hl, hc, n, hd⟩ := hL
  replace hc : c = .type "tuple" := hc
  replace hd : dt = .seq items n := hd
  subst hc hd
  refine callType_new F.called_enumerate (by decide) (F.typeCall_enumerate_1 _) (F.newCall_enumerate_1 _) (fun obj => F.args_object_init_2 obj _) F.entry_enumerate_new
    (enumT_new l items n dct sl) ⟨hl, ?_⟩
  have hz : (s.heap.push { cls := .type "tuple_iterator", data := .fields #[.ref l, .int 0 0] }).objs.size = s.heap.objs.size + 1 := Heap.size_push ..
  show _ ∧ _
  rw [hz]
  have he : IsEnum ((s.heap.push { cls := .type "tuple_iterator", data := .fields #[.ref l, .int 0 0] }).push
      { cls := .type "enumerate", data := .fields #[.none, .bool false, .ref s.heap.objs.size, rawInt 0, .none, .none] }) (s.heap.objs.size + 1) s.heap.objs.size 0 .none := by
    have := Heap.get?_push_size (s.heap.push { cls := .type "tuple_iterator", data := .fields #[.ref l, .int 0 0] })
      (o := { cls := .type "enumerate", data := .fields #[.none, .bool false, .ref s.heap.objs.size, rawInt 0, .none, .none] }) rfl
    rw [hz] at this; exact this
  have fr : ∀ b, s.heap.objs.size ≤ b → s.heap.get? b = none := fun b hb => by
    cases e : s.heap.get? b with
    | none => rfl
    | some o => exact absurd (Heap.lt_size e) (Nat.not_lt.mpr hb)
  exact ⟨⟨_, he, rfl⟩, h _ _ _ (Nat.succ_ne_self _) (fr _ (Nat.le_succ _)) (fr _ (Nat.le_refl _)) he ⟨_, Heap.get?_push_of_some _ (Heap.get?_push_size _ rfl), rfl, rfl⟩ fun b o x => Heap.get?_push_of_some _ (Heap.get?_push_of_some _ x)⟩
end
end Mine

end
section
open PySem PySem.W PySem.Calls PyProof.Rows
set_option Elab.async false
set_option linter.unusedVariables false
namespace Mine
open PySem.W.X
/-- a written tuple of pairs -/
noncomputable def PairsAt (h : Heap) (T : Addr) (es : List (Int × Str)) : Prop := ∃ items, h.IsTuple T items ∧ items.size = es.length ∧ ∀ (i : Nat) (b : Int) (c : Str), es[i]? = some (b, c) → ∃ p tb tc, items[i]? = some (Value.ref p) ∧ h.IsTuple p #[Value.int b tb, Value.str c tc]
theorem isTuple_keep {h h' : Heap} {a : Addr} {its : Array Value} (x : h.IsTuple a its) (k : Kp h h') : h'.IsTuple a its := let ⟨o, e, r⟩ := x; ⟨o, k _ _ e, r⟩
/-- what a turn over pairs leaves -/
noncomputable def StepP (h₀ : Heap) (L : Addr) (gn news : List (Addr × Obj)) (J' : (Str → Option Value) → Prop) (s : Shared) (Q : Flow → Shared → Prop) (f : Flow) (s₃ : Shared) : Prop := match f with
  | .next | .cont => ∃ h' tk g' m', s₃ = { s with heap := h', toks := tk, gens := g' } ∧ GOk s.gens g' ∧ Fr h₀ L h' m' ∧ News h₀ L h' (news ++ gn) ∧ J' m'
  | .ret v => Q (.ret v) s₃
  | .brk => Q .next s₃
section
variable {prog : Program} {w : World} {A : Around} {E : Value → Shared → Prop} {s : Shared}
theorem letGo_tup {elts : List Expr} {x1 : Nat} {pos : Pos} {I T : Addr} {i : Nat} {v : Addr} {Q : Unit → Shared → Prop} (hit : s.heap.IsTupleIter I T i) (h : Q () s) : wpAny (model prog w) A (letOwnedTupleGo (.Tuple elts x1 pos) (.ref I) (.ref v)) Q E s := by
  obtain ⟨o, ho, hc, hd⟩ := hit
  unfold letOwnedTupleGo
  refine wpAny_bind (wpAny_load ho ?_)
  rw [hc, hd]
  refine wpAny_ite_false (decide_eq_false ?_) (wpAny_pure h)
  rw [show (["enumerate", "zip", "dict_itemiterator", "dict_reverseitemiterator", "odict_iterator", "itertools.zip_longest", "itertools.pairwise"].contains "tuple_iterator") = false from by decide]
  simp
theorem for_pairs {h₀ : Heap} {cn : Str} {cs : Scope} {L f : Addr} {ccd : Value} {m : Str → Option Value} {news : List (Addr × Obj)}
    {xi xv : Str} {pi pv pt pos : Pos} {x1 : Nat} {iter : Expr} {body orelse : List Stmt} {Q : Flow → Shared → Prop} {es : List (Int × Str)} {T : Addr}
    (J : Nat → (Str → Option Value) → Prop)
    (F : Fr h₀ L s.heap m) (N : News h₀ L s.heap news) (hT : PairsAt h₀ T es) (hh : A.handled = none) (hk : cs.kind = .function)
    (hxi : (envOf cn cs L f ccd).kindOf xi = some .local) (hxv : (envOf cn cs L f ccd).kindOf xv = some .local)
    (hit : wpAny (model prog w) A (eval iter (envOf cn cs L f ccd)) (fun v s₁ => v = .ref T ∧ s₁ = s) E s) (h0 : J 0 m)
    (step : ∀ i b c m₁ h1 tk g1 pI ti tc E', es[i]? = some (b, c) → J i m₁ → GOk s.gens g1 → Fr h₀ L h1 (fun y => if y = xv then some (.str c tc) else if y = xi then some (.int b ti) else m₁ y) → News h₀ L h1 (news ++ [pI]) → (∀ q ∈ news, q.1 ≠ pI.1) →
      wpAny (model prog w) A (execs body (envOf cn cs L f ccd)) (StepP h₀ L [pI] news (J (i + 1)) s Q) E' { s with heap := h1, toks := tk, gens := g1 })
    (hQ : ∀ h' tk g' m' E', Fr h₀ L h' m' → News h₀ L h' news → GOk s.gens g' → J es.length m' → wpAny (model prog w) A (execs orelse (envOf cn cs L f ccd)) Q E' { s with heap := h', toks := tk, gens := g' })
    (hs : ∀ x, foldedSetIterable iter (envOf cn cs L f ccd) x = pure x := by intro _; rfl) :
    wpAny (model prog w) A (exec (.For (.Tuple [.Name xi pi, .Name xv pv] x1 pt) iter body orelse pos) (envOf cn cs L f ccd)) Q E s := by
  obtain ⟨items, hTT, hsz, hpr⟩ := hT
  refine wpAny_For (wpAny_mono hit (fun v s₁ hv => ?_) fun _ _ x => x) hs
  obtain ⟨rfl, rfl⟩ := hv
  refine wpAny_pyIter_tuple (isTuple_keep hTT F.keep) ?_
  obtain ⟨I, hI⟩ : ∃ I : Addr, I = s₁.heap.objs.size := ⟨_, rfl⟩
  have hIn : s₁.heap.get? I = none := by
    cases e : s₁.heap.get? I with
    | none => rfl
    | some o => exact absurd (Heap.lt_size e) (by rw [hI]; exact Nat.lt_irrefl _)
  have IL : I ≠ L := fun z => by obtain ⟨_, _, _, e, _⟩ := F.ns; rw [← z, hIn] at e; cases e
  have I0 : h₀.get? I = none := by
    cases e : h₀.get? I with
    | none => rfl
    | some o => rw [F.keep _ _ e] at hIn; cases hIn
  have IN : ∀ q ∈ news, q.1 ≠ I := fun q hq z => by rw [← z, (N q hq).1] at hIn; cases hIn
  have itI : (s₁.heap.push { cls := .type "tuple_iterator", data := .fields #[.ref T, .int 0 0] }).IsTupleIter I T 0 := ⟨_, by rw [hI]; exact Heap.get?_push_size _ rfl, rfl, rfl⟩
  have kp1 : Kp s₁.heap (s₁.heap.push { cls := .type "tuple_iterator", data := .fields #[.ref T, .int 0 0] }) := fun b o e => Heap.get?_push_of_some _ e
  rw [← hI]
  generalize s₁.heap.push { cls := .type "tuple_iterator", data := .fields #[.ref T, .int 0 0] } = H1 at itI kp1
  refine codeAny_forLoop_any
    (fun n s' => ∃ h' tk g' m' i, s' = { s₁ with heap := h', toks := tk, gens := g' } ∧ GOk s₁.gens g' ∧ i + n = es.length ∧ h'.IsTupleIter I T i ∧ Fr h₀ L h' m' ∧ News h₀ L h' news ∧ J i m') ?_ es.length
    ⟨H1, _, _, m, 0, rfl, GOk.refl _, Nat.zero_add _, itI, F.keptAll kp1, N.grown kp1, h0⟩
  rintro n s' ⟨h', tk, g', m', i, rfl, go', hin, hit', F', N', hJ⟩
  have hT' := isTuple_keep hTT F'.keep
  have next : ∀ h₁ : Heap, (∀ b o, b ≠ I → h'.get? b = some o → h₁.get? b = some o) → Fr h₀ L h₁ m' ∧ News h₀ L h₁ news := fun h₁ hk₁ =>
    ⟨⟨F'.ns.at' fun o e => hk₁ _ o (Ne.symm IL) e, fun b o e => hk₁ b o (fun z => by rw [z, I0] at e; cases e) (F'.keep b o e), F'.above⟩, fun p hp => ⟨hk₁ _ _ (IN p hp) (N' p hp).1, (N' p hp).2⟩⟩
  by_cases hlt : i < es.length
  · obtain ⟨⟨b, c⟩, hbc⟩ : ∃ q, es[i]? = some q := ⟨_, List.getElem?_eq_getElem hlt⟩
    obtain ⟨p, tb, tc, hx, hp⟩ := hpr i b c hbc
    refine wpAny_pyNext_tuple_item hit' hT' hx fun h4 hit4 hs4 => ?_
    obtain ⟨F4, N4⟩ := next h4 fun b o hb e => (hs4.2 b hb).trans e
    refine letGo_tup hit4 ?_
    refine assign2 (env := envOf cn cs L f ccd) hh F4.ns (isTuple_keep hp F4.keep) hxi hxv (by show (cs.kind == .class || (cs.kind == .module && _)) = false; rw [hk]; rfl) fun h5 tk5 hn5 hk5 => ?_
    have hk5' : ∀ b o, b ≠ L → h4.get? b = some o → h5.get? b = some o := hk5
    have F5 : Fr h₀ L h5 (fun y => if y = xv then some (.str c tc) else if y = xi then some (.int b tb) else m' y) := ⟨hn5, fun b o e => hk5' b o (fun z => by have := Heap.lt_size e; rw [z] at this; exact Nat.lt_irrefl _ (Nat.lt_of_lt_of_le this F.above)) (F4.keep b o e), F.above⟩
    have N5 : News h₀ L h5 news := fun q hq => ⟨hk5' _ _ (N4 q hq).2.1 (N4 q hq).1, (N4 q hq).2⟩
    obtain ⟨oI, eI4, rI⟩ := hit4
    have NI : News h₀ L h5 [(I, oI)] := fun q hq => by
      rcases List.mem_singleton.mp hq with rfl
      exact ⟨hk5' _ _ IL eI4, IL, I0⟩
    refine wpAny_mono (step i b c m' h5 tk5 g' (I, oI) tb tc _ hbc hJ go' F5 (N5.append NI) IN) (fun fl s₃ h₃ => ?_) fun _ _ x => x
    have fin : StepP h₀ L [(I, oI)] news (J (i + 1)) s₁ Q .next s₃ → ∃ mm, mm < n ∧ (∃ h' tk g' m' i, s₃ = { s₁ with heap := h', toks := tk, gens := g' } ∧ GOk s₁.gens g' ∧ i + mm = es.length ∧ h'.IsTupleIter I T i ∧ Fr h₀ L h' m' ∧ News h₀ L h' news ∧ J i m') := by
      rintro ⟨h6, tk6, g6, m6, rfl, go6, F6, N6, hJ6⟩
      exact ⟨n - 1, by (first | lia | omega), h6, tk6, g6, m6, i + 1, rfl, go6, by (first | lia | omega), ⟨oI, (N6 (I, oI) (by simp)).1, rI⟩, F6, fun q hq => N6 q (List.mem_append_left _ hq), hJ6⟩
    cases fl with
    | next => exact fin h₃
    | cont => exact fin h₃
    | brk => exact h₃
    | ret v => exact h₃
  · have hx : items[i]? = none := Array.getElem?_eq_none (by (first | lia | omega))
    obtain rfl : i = es.length := by (first | lia | omega)
    refine wpAny_pyNext_tuple_end hh hit' hT' hx fun h4 hs4 => ?_
    obtain ⟨F4, N4⟩ := next h4 fun b o hb e => hs4 b o hb e
    exact hQ h4 _ g' m' _ F4 N4 go' hJ
end
/-- what a turn over an enumerated tuple leaves -/
noncomputable def StepE (h₀ : Heap) (L : Addr) (gn news : List (Addr × Obj)) (J' : (Str → Option Value) → List (Addr × Obj) → Prop) (s : Shared) (Q : Flow → Shared → Prop) (f : Flow) (s₃ : Shared) : Prop := match f with
  | .next | .cont => ∃ h' tk g' m' news', s₃ = { s with heap := h', toks := tk, gens := g' } ∧ GOk s.gens g' ∧ Fr h₀ L h' m' ∧ News h₀ L h' (news' ++ gn) ∧ news'.map (·.1) = news.map (·.1) ∧ J' m' news'
  | .ret v => Q (.ret v) s₃
  | .brk => Q .next s₃
section
variable {prog : Program} {w : World} {A : Around} {E : Value → Shared → Prop} {s : Shared}
theorem for_enumT {h₀ : Heap} {cn : Str} {cs : Scope} {L f : Addr} {ccd : Value} {m : Str → Option Value} {news : List (Addr × Obj)}
    {xi xv : Str} {pi pv pt pos : Pos} {x1 : Nat} {iter : Expr} {body orelse : List Stmt} {Q : Flow → Shared → Prop} {items : Array Value} {T : Addr}
    (J : Nat → (Str → Option Value) → List (Addr × Obj) → Prop)
    (F : Fr h₀ L s.heap m) (N : News h₀ L s.heap news) (hT : h₀.IsTuple T items) (hh : A.handled = none) (hk : cs.kind = .function)
    (hxi : (envOf cn cs L f ccd).kindOf xi = some .local) (hxv : (envOf cn cs L f ccd).kindOf xv = some .local)
    (hit : ∀ Q' : Value → Shared → Prop, wpAny (model prog w) A (call (.type "enumerate") [.ref T]) Q' E s → wpAny (model prog w) A (eval iter (envOf cn cs L f ccd)) Q' E s) (h0 : J 0 m news)
    (step : ∀ i x m₁ news₁ h1 tk g1 pI pE ti E', items[i]? = some x → J i m₁ news₁ → news₁.map (·.1) = news.map (·.1) → GOk s.gens g1 → Fr h₀ L h1 (fun y => if y = xv then some x else if y = xi then some (.int (i : Int) ti) else m₁ y) → News h₀ L h1 (news₁ ++ [pE, pI]) → (∀ q ∈ news₁, q.1 ≠ pE.1 ∧ q.1 ≠ pI.1) →
      wpAny (model prog w) A (execs body (envOf cn cs L f ccd)) (StepE h₀ L [pE, pI] news₁ (J (i + 1)) s Q) E' { s with heap := h1, toks := tk, gens := g1 })
    (hQ : ∀ h' tk g' m' news' E', Fr h₀ L h' m' → News h₀ L h' news' → news'.map (·.1) = news.map (·.1) → GOk s.gens g' → J items.size m' news' → wpAny (model prog w) A (execs orelse (envOf cn cs L f ccd)) Q E' { s with heap := h', toks := tk, gens := g' })
    (hs : ∀ x, foldedSetIterable iter (envOf cn cs L f ccd) x = pure x := by intro _; rfl) :
    wpAny (model prog w) A (exec (.For (.Tuple [.Name xi pi, .Name xv pv] x1 pt) iter body orelse pos) (envOf cn cs L f ccd)) Q E s := by
  refine wpAny_For (hit _ (call_enumT (isTuple_keep hT F.keep) fun H1 e it hne he0 hi0 hE hI kp1 => wpAny_pyIter_enum hE ?_)) hs
  have oldN : ∀ {b : Addr}, s.heap.get? b = none → h₀.get? b = none ∧ b ≠ L ∧ ∀ q ∈ news, q.1 ≠ b := fun {b} hb => by
    refine ⟨?_, fun z => ?_, fun q hq z => ?_⟩
    · cases e : h₀.get? b with
      | none => rfl
      | some o => rw [F.keep _ _ e] at hb; cases hb
    · obtain ⟨_, _, _, e, _⟩ := F.ns; rw [← z, hb] at e; cases e
    · rw [← z, (N q hq).1] at hb; cases hb
  obtain ⟨e1, e2, e3⟩ := oldN he0
  obtain ⟨i1, i2, i3⟩ := oldN hi0
  have off : ∀ {news' : List (Addr × Obj)} {b : Addr}, news'.map (·.1) = news.map (·.1) → (∀ q ∈ news, q.1 ≠ b) → ∀ q ∈ news', q.1 ≠ b := fun {news'} {b} hm hb q hq z => by
    have : q.1 ∈ news.map (·.1) := hm ▸ List.mem_map_of_mem hq
    obtain ⟨q', hq', e⟩ := List.mem_map.mp this
    exact hb q' hq' (e.trans z)
  refine codeAny_forLoop_any
    (fun n s' => ∃ h' tk g' m' news' i, s' = { s with heap := h', toks := tk, gens := g' } ∧ GOk s.gens g' ∧ i + n = items.size ∧ (∃ old, IsEnum h' e it i old) ∧ h'.IsTupleIter it T i ∧ Fr h₀ L h' m' ∧ News h₀ L h' news' ∧ news'.map (·.1) = news.map (·.1) ∧ J i m' news') ?_ items.size
    ⟨H1, _, _, m, news, 0, rfl, GOk.refl _, Nat.zero_add _, ⟨_, hE⟩, hI, F.keptAll kp1, N.grown kp1, rfl, h0⟩
  rintro n s' ⟨h', tk, g', m', news', i, rfl, go', hin, ⟨old, hE'⟩, hI', F', N', hm', hJ⟩
  have hT' := isTuple_keep hT F'.keep
  have next : ∀ h₁ : Heap, (∀ b o, b ≠ e → b ≠ it → h'.get? b = some o → h₁.get? b = some o) → Fr h₀ L h₁ m' ∧ News h₀ L h₁ news' := fun h₁ hk₁ =>
    ⟨⟨F'.ns.at' fun o q => hk₁ _ o (Ne.symm e2) (Ne.symm i2) q, fun b o q => hk₁ b o (fun z => by rw [z, e1] at q; cases q) (fun z => by rw [z, i1] at q; cases q) (F'.keep b o q), F'.above⟩, fun p hp => ⟨hk₁ _ _ (off hm' e3 p hp) (off hm' i3 p hp) (N' p hp).1, (N' p hp).2⟩⟩
  by_cases hlt : i < items.size
  · have hx : items[i]? = some items[i] := Array.getElem?_eq_getElem hlt
    generalize items[i] = x at hx
    refine enumT_item hE' hI' hT' hx hne fun h4 tk4 ti P hP0 hE4 hI4 hP4 hk4 => ?_
    have hk4' : ∀ b o, b ≠ e → b ≠ it → h'.get? b = some o → h4.get? b = some o := hk4
    have hP0' : h'.get? P = none := hP0
    refine wpAny_letOwnedTupleGo_enum hE4 fun h5 hE5 hs5 => ?_
    have hs5' : Heap.SameBut e h4 h5 := hs5
    have hPe : P ≠ e := fun z => by rw [z, hE'] at hP0'; cases hP0'
    have hI5 : h5.IsTupleIter it T (i + 1) := let ⟨o, q, r⟩ := hI4; ⟨o, (hs5'.2 _ (Ne.symm hne)).trans q, r⟩
    obtain ⟨F5, N5⟩ := next h5 fun b o b1 b2 q => (hs5'.2 b b1).trans (hk4' b o b1 b2 q)
    refine assign2 (env := envOf cn cs L f ccd) hh F5.ns ⟨_, (hs5'.2 _ hPe).trans hP4, rfl, 0, rfl⟩ hxi hxv (by show (cs.kind == .class || (cs.kind == .module && _)) = false; rw [hk]; rfl) fun h6 tk6 hn6 hk6 => ?_
    have hk6' : ∀ b o, b ≠ L → h5.get? b = some o → h6.get? b = some o := hk6
    have F6 : Fr h₀ L h6 (fun y => if y = xv then some x else if y = xi then some (.int (i : Int) ti) else m' y) := ⟨hn6, fun b o q => hk6' b o (fun z => by have := Heap.lt_size q; rw [z] at this; exact Nat.lt_irrefl _ (Nat.lt_of_lt_of_le this F.above)) (F5.keep b o q), F.above⟩
    have N6 : News h₀ L h6 news' := fun q hq => ⟨hk6' _ _ (N5 q hq).2.1 (N5 q hq).1, (N5 q hq).2⟩
    obtain ⟨oI, eI5, rI⟩ := hI5
    unfold IsEnum at hE5
    generalize hoE : ({ cls := _, data := _ } : Obj) = oE at hE5
    have NI : News h₀ L h6 [(e, oE), (it, oI)] := fun q hq => by
      simp only [List.mem_cons, List.not_mem_nil, or_false] at hq
      rcases hq with rfl | rfl
      · exact ⟨hk6' _ _ e2 hE5, e2, e1⟩
      · exact ⟨hk6' _ _ i2 eI5, i2, i1⟩
    refine wpAny_mono (step i x m' news' h6 tk6 g' (it, oI) (e, oE) ti _ hx hJ hm' go' F6 (N6.append NI) fun q hq => ⟨off hm' e3 q hq, off hm' i3 q hq⟩) (fun fl s₃ h₃ => ?_) fun _ _ x => x
    have fin : StepE h₀ L [(e, oE), (it, oI)] news' (J (i + 1)) s Q .next s₃ → ∃ mm, mm < n ∧ (∃ h' tk g' m' news' i, s₃ = { s with heap := h', toks := tk, gens := g' } ∧ GOk s.gens g' ∧ i + mm = items.size ∧ (∃ old, IsEnum h' e it i old) ∧ h'.IsTupleIter it T i ∧ Fr h₀ L h' m' ∧ News h₀ L h' news' ∧ news'.map (·.1) = news.map (·.1) ∧ J i m' news') := by
      rintro ⟨h7, tk7, g7, m7, news7, rfl, go7, F7, N7, hm7, hJ7⟩
      have a1 := (N7 (e, oE) (by simp)).1
      rw [← hoE] at a1
      exact ⟨n - 1, by (first | lia | omega), h7, tk7, g7, m7, news7, i + 1, rfl, go7, by (first | lia | omega), ⟨_, a1⟩, ⟨oI, (N7 (it, oI) (by simp)).1, rI⟩, F7, fun q hq => N7 q (List.mem_append_left _ hq), hm7.trans hm', hJ7⟩
    cases fl with
    | next => exact fin h₃
    | cont => exact fin h₃
    | brk => exact h₃
    | ret v => exact h₃
  · have hx : items[i]? = none := Array.getElem?_eq_none (by (first | lia | omega))
    obtain rfl : i = items.size := by (first | lia | omega)
    refine enumT_end hh hE' hI' hT' hx fun h4 hs4 => ?_
    obtain ⟨F4, N4⟩ := next h4 fun b o _ hb q => hs4 b o hb q
    exact hQ h4 _ g' m' news' _ F4 N4 hm' go' hJ
end
end Mine

end
section
open PySem PySem.W PySem.Calls PyProof.Rows
set_option Elab.async false
set_option linter.unusedVariables false
namespace Mine
open PySem.W.X
noncomputable def fmTabs : List (List (Int × Str)) :=
  [[(40960, Str.ofString "l"), (49152, Str.ofString "s"), (32768, Str.ofString "-"), (24576, Str.ofString "b"), (16384, Str.ofString "d"), (8192, Str.ofString "c"), (4096, Str.ofString "p")],
   [(256, Str.ofString "r")], [(128, Str.ofString "w")], [(2112, Str.ofString "s"), (2048, Str.ofString "S"), (64, Str.ofString "x")],
   [(32, Str.ofString "r")], [(16, Str.ofString "w")], [(1032, Str.ofString "s"), (1024, Str.ofString "S"), (8, Str.ofString "x")],
   [(4, Str.ofString "r")], [(2, Str.ofString "w")], [(513, Str.ofString "t"), (512, Str.ofString "T"), (1, Str.ofString "x")]]
noncomputable def fmTest (n : Int) (i : Nat) (b : Int) : Bool := if i = 0 then Builtin.bitAnd n 61440 == b else Builtin.bitAnd n b == b
noncomputable def fmPick (n : Int) (i : Nat) : List (Int × Str) → Str
  | [] => if i = 0 then Str.ofString "?" else Str.ofString "-"
  | (b, c) :: r => if fmTest n i b = true then c else fmPick n i r
noncomputable def fmSigns (n : Int) : List Str := fmTabs.mapIdx fun i es => fmPick n i es
noncomputable def fmOf (n : Int) : Str := Txt.join (Str.ofString "") (fmSigns n)
noncomputable def fmItems : Array Value := #[.ref 66, .ref 68, .ref 70, .ref 74, .ref 76, .ref 78, .ref 82, .ref 84, .ref 86, .ref 90]
set_option maxRecDepth 100000 in
theorem tup_K {K : Frag} {h : Heap} (X : K.In h) (a : Nat) (o : Obj) (its : Array Value) (k : Nat) (hk : K.lookup a = some o) (hc : o.cls = .type "tuple") (hd : o.data = .seq its k) : h.IsTuple a its := ⟨o, X a o hk, hc, k, hd⟩
set_option maxRecDepth 100000 in
set_option maxHeartbeats 1000000 in
theorem tabs_at : ∀ (p : Params) (h : Heap) (Z : PySem.Challenge.rw_om0053_01.prog = PySem.Challenge.rw_om0053_01.prog) (X : (Mine.K2 p).In h), h.IsTuple 91 fmItems ∧ ∀ (i : Nat) (T : Value), fmItems[i]? = some T → ∃ (a : Addr) (es : List (Int × Str)), T = Value.ref a ∧ fmTabs[i]? = some es ∧ PairsAt h a es := by
  k_fill
  intro p h _ X
  refine ⟨⟨_, X 91 _ (by k_is), rfl, 0, rfl⟩, ?_⟩
  have tp : ∀ (a : Addr) (b : Int) (tb : Tok) (c : Str) (tc : Tok), (Mine.K2 p).lookup a = some { cls := .type "tuple", data := .seq #[Value.int b tb, Value.str c tc] } → h.IsTuple a #[Value.int b tb, Value.str c tc] := fun a b tb c tc e => ⟨_, X a _ e, rfl, 0, rfl⟩
  have one : ∀ (a p1 : Addr) (b : Int) (tb : Tok) (c : Str) (tc : Tok), (Mine.K2 p).lookup a = some { cls := .type "tuple", data := .seq #[Value.ref p1] } → h.IsTuple p1 #[Value.int b tb, Value.str c tc] → PairsAt h a [(b, c)] := fun a p1 b tb c tc e e1 =>
    ⟨_, ⟨_, X a _ e, rfl, 0, rfl⟩, rfl, fun (i : Nat) (b' : Int) (c' : Str) hi => by
      match i, hi with
      | 0, hi => injection hi with hi; injection hi with h1 h2; subst h1 h2; exact ⟨p1, tb, tc, rfl, e1⟩⟩
  have three : ∀ (a p1 p2 p3 : Addr) (b1 b2 b3 : Int) (t1 t2 t3 : Tok) (c1 c2 c3 : Str) (u1 u2 u3 : Tok), (Mine.K2 p).lookup a = some { cls := .type "tuple", data := .seq #[Value.ref p1, Value.ref p2, Value.ref p3] } → h.IsTuple p1 #[.int b1 t1, .str c1 u1] → h.IsTuple p2 #[.int b2 t2, .str c2 u2] → h.IsTuple p3 #[.int b3 t3, .str c3 u3] → PairsAt h a [(b1, c1), (b2, c2), (b3, c3)] := fun a p1 p2 p3 b1 b2 b3 t1 t2 t3 c1 c2 c3 u1 u2 u3 e e1 e2 e3 =>
    ⟨_, ⟨_, X a _ e, rfl, 0, rfl⟩, rfl, fun (i : Nat) (b' : Int) (c' : Str) hi => by
      match i, hi with
      | 0, hi => injection hi with hi; injection hi with h1 h2; subst h1 h2; exact ⟨p1, _, _, rfl, e1⟩
      | 1, hi => injection hi with hi; injection hi with h1 h2; subst h1 h2; exact ⟨p2, _, _, rfl, e2⟩
      | 2, hi => injection hi with hi; injection hi with h1 h2; subst h1 h2; exact ⟨p3, _, _, rfl, e3⟩⟩
  intro i T hT
  match i, hT with
  | 0, hT =>
    injection hT with hT; subst hT
    refine ⟨66, _, rfl, rfl, _, ⟨_, X 66 _ (by k_is), rfl, 0, rfl⟩, rfl, fun (i : Nat) (b' : Int) (c' : Str) hi => ?_⟩
    match i, hi with
    | 0, hi => injection hi with hi; injection hi with h1 h2; subst h1 h2; exact ⟨59, _, _, rfl, tp _ _ _ _ _ (by k_is)⟩
    | 1, hi => injection hi with hi; injection hi with h1 h2; subst h1 h2; exact ⟨60, _, _, rfl, tp _ _ _ _ _ (by k_is)⟩
    | 2, hi => injection hi with hi; injection hi with h1 h2; subst h1 h2; exact ⟨61, _, _, rfl, tp _ _ _ _ _ (by k_is)⟩
    | 3, hi => injection hi with hi; injection hi with h1 h2; subst h1 h2; exact ⟨62, _, _, rfl, tp _ _ _ _ _ (by k_is)⟩
    | 4, hi => injection hi with hi; injection hi with h1 h2; subst h1 h2; exact ⟨63, _, _, rfl, tp _ _ _ _ _ (by k_is)⟩
    | 5, hi => injection hi with hi; injection hi with h1 h2; subst h1 h2; exact ⟨64, _, _, rfl, tp _ _ _ _ _ (by k_is)⟩
    | 6, hi => injection hi with hi; injection hi with h1 h2; subst h1 h2; exact ⟨65, _, _, rfl, tp _ _ _ _ _ (by k_is)⟩
  | 1, hT => injection hT with hT; subst hT; exact ⟨68, _, rfl, rfl, one 68 67 _ _ _ _ (by k_is) (tp _ _ _ _ _ (by k_is))⟩
  | 2, hT => injection hT with hT; subst hT; exact ⟨70, _, rfl, rfl, one 70 69 _ _ _ _ (by k_is) (tp _ _ _ _ _ (by k_is))⟩
  | 3, hT => injection hT with hT; subst hT; exact ⟨74, _, rfl, rfl, three 74 71 72 73 _ _ _ _ _ _ _ _ _ _ _ _ (by k_is) (tp _ _ _ _ _ (by k_is)) (tp _ _ _ _ _ (by k_is)) (tp _ _ _ _ _ (by k_is))⟩
  | 4, hT => injection hT with hT; subst hT; exact ⟨76, _, rfl, rfl, one 76 75 _ _ _ _ (by k_is) (tp _ _ _ _ _ (by k_is))⟩
  | 5, hT => injection hT with hT; subst hT; exact ⟨78, _, rfl, rfl, one 78 77 _ _ _ _ (by k_is) (tp _ _ _ _ _ (by k_is))⟩
  | 6, hT => injection hT with hT; subst hT; exact ⟨82, _, rfl, rfl, three 82 79 80 81 _ _ _ _ _ _ _ _ _ _ _ _ (by k_is) (tp _ _ _ _ _ (by k_is)) (tp _ _ _ _ _ (by k_is)) (tp _ _ _ _ _ (by k_is))⟩
  | 7, hT => injection hT with hT; subst hT; exact ⟨84, _, rfl, rfl, one 84 83 _ _ _ _ (by k_is) (tp _ _ _ _ _ (by k_is))⟩
  | 8, hT => injection hT with hT; subst hT; exact ⟨86, _, rfl, rfl, one 86 85 _ _ _ _ (by k_is) (tp _ _ _ _ _ (by k_is))⟩
  | 9, hT => injection hT with hT; subst hT; exact ⟨90, _, rfl, rfl, three 90 87 88 89 _ _ _ _ _ _ _ _ _ _ _ _ (by k_is) (tp _ _ _ _ _ (by k_is)) (tp _ _ _ _ _ (by k_is)) (tp _ _ _ _ _ (by k_is))⟩
noncomputable def FMJ (n : Int) (t : Tok) (P : Addr) (i : Nat) (m : Str → Option Value) (news : List (Addr × Obj)) : Prop :=
  ∃ its k ps, news = [(P, W.listOf its k)] ∧ m (Str.ofString "perm") = some (.ref P) ∧ m (Str.ofString "mode") = some (.int n t) ∧ StrsAre its.toList ps ∧ ps = (fmSigns n).take i
theorem fmPick_all {P : Str → Prop} {n : Int} {i : Nat} (h1 : P (Str.ofString "?")) (h2 : P (Str.ofString "-")) : ∀ {es : List (Int × Str)}, (∀ q ∈ es, P q.2) → P (fmPick n i es)
  | [], _ => by rw [fmPick]; split <;> assumption
  | (b, c) :: r, h => by
    rw [fmPick]
    split
    · exact h _ (.head _)
    · exact fmPick_all h1 h2 fun q hq => h q (.tail _ hq)
theorem fmSigns_all {P : Str → Prop} (h1 : P (Str.ofString "?")) (h2 : P (Str.ofString "-")) (h : ∀ es ∈ fmTabs, ∀ q ∈ es, P q.2) (n : Int) : ∀ p ∈ fmSigns n, P p := fun p hp => by
  obtain ⟨i, hi, e⟩ := List.mem_mapIdx.mp hp
  rw [← e]; exact fmPick_all h1 h2 (h _ (List.getElem_mem hi))
theorem fm_take {n : Int} {i : Nat} {es : List (Int × Str)} (h : fmTabs[i]? = some es) : (fmSigns n).take i ++ [fmPick n i es] = (fmSigns n).take (i + 1) := by
  rw [List.take_add_one, fmSigns, List.getElem?_mapIdx, h]; rfl
theorem fm_hit {n : Int} {i j : Nat} {es : List (Int × Str)} {b : Int} {c : Str} (hbc : es[j]? = some (b, c)) (hp : fmPick n i (es.drop j) = fmPick n i es) (h : fmTest n i b = true) : fmPick n i es = c := by
  obtain ⟨hlt, e⟩ := List.getElem?_eq_some_iff.mp hbc
  rw [← hp, List.drop_eq_getElem_cons hlt, e, fmPick, if_pos h]
theorem fm_miss {n : Int} {i j : Nat} {es : List (Int × Str)} {b : Int} {c : Str} (hbc : es[j]? = some (b, c)) (hp : fmPick n i (es.drop j) = fmPick n i es) (h : fmTest n i b = false) : fmPick n i (es.drop (j + 1)) = fmPick n i es := by
  obtain ⟨hlt, e⟩ := List.getElem?_eq_some_iff.mp hbc
  rw [← hp, List.drop_eq_getElem_cons hlt, e, fmPick, h, if_neg (by decide)]
theorem StepP.brk {h₀ : Heap} {L : Addr} {gn news : List (Addr × Obj)} {J' : (Str → Option Value) → Prop} {s : Shared} {Q : Flow → Shared → Prop} {s₃ : Shared} (h : Q .next s₃) : StepP h₀ L gn news J' s Q .brk s₃ := h
theorem StepP.next {h₀ : Heap} {L : Addr} {gn news : List (Addr × Obj)} {J' : (Str → Option Value) → Prop} {s : Shared} {Q : Flow → Shared → Prop} {h' : Heap} {tk : Nat} {g' : Array GenState} {m' : Str → Option Value} (go : GOk s.gens g') (F : Fr h₀ L h' m') (N : News h₀ L h' (news ++ gn)) (hJ : J' m') :
    StepP h₀ L gn news J' s Q .next { s with heap := h', toks := tk, gens := g' } := ⟨h', tk, g', m', rfl, go, F, N, hJ⟩
theorem StepE.next {h₀ : Heap} {L : Addr} {gn news news' : List (Addr × Obj)} {J' : (Str → Option Value) → List (Addr × Obj) → Prop} {s : Shared} {Q : Flow → Shared → Prop} {h' : Heap} {tk : Nat} {g' : Array GenState} {m' : Str → Option Value} (go : GOk s.gens g') (F : Fr h₀ L h' m') (N : News h₀ L h' (news' ++ gn)) (hm : news'.map (·.1) = news.map (·.1)) (hJ : J' m' news') :
    StepE h₀ L gn news J' s Q .next { s with heap := h', toks := tk, gens := g' } := ⟨h', tk, g', m', news', rfl, go, F, N, hm, hJ⟩
theorem fmJ_next {n : Int} {t : Tok} {P : Addr} {i : Nat} {m : Str → Option Value} {its : Array Value} {k' : Nat} {ps : List Str} {es : List (Int × Str)} {c : Str} {tc : Tok} (hpm : m (Str.ofString "perm") = some (.ref P)) (hmo : m (Str.ofString "mode") = some (.int n t)) (hps : StrsAre its.toList ps)
    (hpe : ps = (fmSigns n).take i) (hes : fmTabs[i]? = some es) (hc : fmPick n i es = c) : FMJ n t P (i + 1) m [(P, W.listOf (its.push (.str c tc)) k')] :=
  ⟨_, _, _, rfl, hpm, hmo, strsAre_push hps, by rw [hpe, ← hc, fm_take hes]⟩
theorem news4 {h₀ h : Heap} {L : Addr} {a b c d : Addr × Obj} (N : News h₀ L h [a, b, c, d]) : News h₀ L h [a, b, c] := fun p hp => N p (by simp only [List.mem_cons, List.not_mem_nil, or_false] at hp ⊢; rcases hp with h | h | h <;> simp [h])
noncomputable def FMI (n : Int) (t : Tok) (P : Addr) (i : Nat) (ti : Tok) (es : List (Int × Str)) (j : Nat) (m : Str → Option Value) : Prop :=
  m (Str.ofString "index") = some (.int i ti) ∧ m (Str.ofString "mode") = some (.int n t) ∧ m (Str.ofString "perm") = some (.ref P) ∧ fmPick n i (es.drop j) = fmPick n i es
local macro_rules | `(tactic| walk_at "exec For Tuple Call") => `(tactic| (k_here; refine Halt.mk ?_))
local macro_rules | `(tactic| walk_at "exec For Tuple Name") => `(tactic| (k_here; refine Halt.mk ?_))
local macro_rules | `(tactic| walk_at "call ref") => `(tactic| (k_here; (with_reducible show wpAny _ _ (call (Value.ref 58) [Value.int _ _]) _ _ _); refine Halt.mk ?_))
local macro_rules | `(tactic| walk_at "call type:enumerate") => `(tactic| (k_here; refine Halt.mk ?_))
local macro_rules | `(tactic| walk_at "storeName") => `(tactic| walk_at "my_store")
set_option maxRecDepth 100000 in
set_option maxHeartbeats 8000000 in
theorem fm_spec0 : ∀ (w : World) (mg mb : Str → Option Value) (s : Shared) (Q E : Value → Shared → Prop) (n : Int) (t : Tok),
    (Mine.K2 w.params).In s.heap → TopRead Mine.myView LS mg mb s.heap → 0 ≤ n → n < 65536 → (∀ (v : Value) (h' : Heap) (tk : Nat) (g' : Array GenState), Kp s.heap h' → GOk s.gens g' → (StrIs (fmOf n)) s.heap v h' → Q v { s with heap := h', toks := tk, gens := g' }) →
    wpAny (model PySem.Challenge.rw_om0053_01.prog w) (AA 18) (call (.ref 98) [.int n t]) Q E s := by
  k_fill
  intro w mg mb s Q E n t X T h0 hn hret
  have TA := tabs_at _ _ rfl X
  refine wpAny_call ?_
  k_dflt (refine' call_plain (binds := [(Str.ofString "mode", .int n t)]) ?k1 ?k2 ?k3 ?k4 ?k5 ?k6 ?k7 ?_ ?c1 ?c2 ?c3 ?c4; (case k2 => exact X _ _ (by k_is)); (case k3 => exact rfl); (case k1 => decide); (case k4 => exact T.nolimit); (case k5 => exact codeRec_of X (by k_is)); (case k6 => exact rfl); (case k7 => exact locs rfl); (case c1 => exact rfl); (case c2 => exact rfl); (case c3 => exact rfl); (case c4 => decide))
  intro h1 F1
  k_fold
  have N1 : News s.heap s.heap.objs.size h1 [] := News.nil
  k_steps
  rename Fr _ _ _ _ => F2
  rename News _ _ _ _ => N2
  obtain ⟨P, hP⟩ := news_name N2
  subst hP
  refine Halt.go (for_enumT (items := fmItems) (T := 91) (FMJ n t P) F2 N2 TA.1 rfl rfl rfl rfl ?it ?z ?step ?fin (fun _ => rfl))
  case it =>
    intro Q' h
    k_steps
    exact h
  case z => exact ⟨_, _, [], rfl, rfl, rfl, .nil, rfl⟩
  case fin =>
    rintro h4 tk4 g4 m4 news4 E4 F4 N4 hm4 go4 ⟨its, k, ps, rfl, hpm, hmo, hps, hpe⟩
    obtain ⟨rest, rfl⟩ := canon2 hpm hmo
    clear hpm hmo F2 N2
    k_steps
    rename Fr _ _ _ _ => F6
    rename News _ _ _ _ => N6
    have hpe' : ps = fmSigns n := hpe.trans (List.take_of_length_le (Nat.le_refl _))
    refine join_list (isList_of_news N6 (.head _)) hps ?_ fun t' k => ?_
    · have : (Str.ofString "").length = 0 := by decide
      have h2 := join_sum ps (by rw [hpe']; exact fmSigns_all (by decide) (by decide) (by decide) n) (by rw [hpe']; exact (by decide : (10 : Nat) ≤ 1001))
      rw [this]; (first | lia | omega)
    · refine hret _ _ _ _ F6.keep go4 (end_str ?_)
      rw [hpe']; rfl
  case step =>
    rintro i x m₁ news₁ h3 tk3 g3 pI pE ti E' hx ⟨its, k, ps, rfl, hpm, hmo, hps, hpe⟩ hmm go3 F3 N3 hap
    obtain ⟨a, es, rfl, hes, hpa⟩ := TA.2 i x hx
    obtain ⟨rest, rfl⟩ := canon2 hpm hmo
    have hz2 : its.size ≤ sizeLine := by
      have h1 := hps.length
      rw [Array.length_toList, hpe, List.length_take] at h1
      have h2 : (fmSigns n).length = 10 := rfl
      have h3 : (10 : Nat) ≤ sizeLine := by decide
      (first | lia | omega)
    obtain ⟨q1, q2⟩ : @Ne Nat P pE.1 ∧ @Ne Nat P pI.1 := hap _ (List.Mem.head _)
    clear hpm hmo F2 N2
    simp only [List.cons_append, List.nil_append] at N3
    k_steps
    refine Halt.go (for_pairs (es := es) (T := a) (FMI n t P i ti es) F3 N3 hpa rfl rfl rfl rfl ?it2 ?z2 ?step2 ?fin2 (fun _ => rfl))
    case it2 => exact ld F3 rfl ⟨rfl, rfl⟩
    case z2 => exact ⟨rfl, rfl, rfl, by rw [List.drop_zero]⟩
    case step2 =>
      rintro j b c m₂ h4 tk4 g4 pT tb tc E2 hbc ⟨hix, hmo, hpm, hpick⟩ go4 F4 N4 hap2
      obtain ⟨rest2, rfl⟩ := canon3 hix hmo hpm
      simp only [List.cons_append, List.nil_append] at N4
      have q3 : @Ne Nat P pT.1 := hap2 _ (List.Mem.head _)
      clear hix hmo hpm F3 N3 hap hap2
      k_steps
      · rename ((i : Nat) : Int) = 0 => hi
        have hi : i = 0 := by (first | lia | omega)
        refine Halt.go (Spec.use (ifmt_spec w mg mb n t h0 hn) F4 N4 X T trivial rfl (Nat.le_of_ble_eq_true rfl) (Nat.le_of_ble_eq_true rfl) fun v h5 tk5 g5 kp5 go5 po5 F5 N5 => ?_)
        obtain ⟨t5, rfl⟩ := po5
        clear F4 N4
        k_steps
        · rename _ = b => hb
          rename Fr _ _ _ _ => F6
          rename News _ _ _ _ => N6
          refine StepP.brk (wpAny_execs_nil (StepE.next (go3.trans (go4.trans go5)) F6 (news' := [(P, _)]) (news4 N6) rfl (fmJ_next rfl rfl hps hpe hes (fm_hit hbc hpick ?_))))
          simp [fmTest, hi, hb]
        · rename ¬ (_ = b) => hb
          rename Fr _ _ _ _ => F6
          rename News _ _ _ _ => N6
          refine StepP.next (go4.trans go5) F6 N6 ⟨rfl, rfl, rfl, fm_miss hbc hpick ?_⟩
          simp [fmTest, hi, hb]
      · rename ¬ (((i : Nat) : Int) = 0) => hi
        rename _ = b => hb
        have hi : ¬ i = 0 := by (first | lia | omega)
        rename Fr _ _ _ _ => F6
        rename News _ _ _ _ => N6
        refine StepP.brk (wpAny_execs_nil (StepE.next (go3.trans go4) F6 (news' := [(P, _)]) (news4 N6) rfl (fmJ_next rfl rfl hps hpe hes (fm_hit hbc hpick ?_))))
        simp [fmTest, hi, hb]
      · rename ¬ (((i : Nat) : Int) = 0) => hi
        rename ¬ (_ = b) => hb
        have hi : ¬ i = 0 := by (first | lia | omega)
        rename Fr _ _ _ _ => F6
        rename News _ _ _ _ => N6
        refine StepP.next go4 F6 N6 ⟨rfl, rfl, rfl, fm_miss hbc hpick ?_⟩
        simp [fmTest, hi, hb]
    case fin2 =>
      rintro h4 tk4 g4 m₂ E2 F4 N4 go4 ⟨hix, hmo, hpm, hpick⟩
      obtain ⟨rest2, rfl⟩ := canon3 hix hmo hpm
      clear hix hmo hpm F3 N3 hap
      rw [List.drop_length] at hpick
      simp only [fmPick] at hpick
      k_steps
      · rename ((i : Nat) : Int) = 0 => hi
        have hi : i = 0 := by (first | lia | omega)
        rename Fr _ _ _ _ => F6
        rename News _ _ _ _ => N6
        refine StepE.next (go3.trans go4) F6 (news' := [(P, _)]) N6 rfl (fmJ_next rfl rfl hps hpe hes ?_)
        rw [← hpick, if_pos hi]
      · rename ¬ (((i : Nat) : Int) = 0) => hi
        have hi : ¬ i = 0 := by (first | lia | omega)
        rename Fr _ _ _ _ => F6
        rename News _ _ _ _ => N6
        refine StepE.next (go3.trans go4) F6 (news' := [(P, _)]) N6 rfl (fmJ_next rfl rfl hps hpe hes ?_)
        rw [← hpick, if_neg hi]
theorem fm_spec (w : World) (mg mb : Str → Option Value) (n : Int) (t : Tok) (h0 : 0 ≤ n) (hn : n < 65536) : Spec w mg mb 18 98 [.int n t] (fun _ => True) (StrIs (fmOf n)) :=
  fun s Q E X T _ hret => fm_spec0 w mg mb s Q E n t X T h0 hn hret
end Mine

end
section
open PySem PySem.W PySem.Calls PyProof.Rows
set_option Elab.async false
set_option linter.unusedVariables false
namespace Mine
open PySem.W.X
noncomputable def signMap : List (Str × Str) := [(Str.ofString "r", Str.ofString "("), (Str.ofString "w", Str.ofString ")"), (Str.ofString "x", Str.ofString "\\(\\\""), (Str.ofString "s", Str.ofString "\"(\""), (Str.ofString "S", Str.ofString ")("), (Str.ofString "t", Str.ofString "\\\\"), (Str.ofString "T", Str.ofString ")("), (Str.ofString "-", Str.ofString "")]
theorem valueAt_mem {K : Type} [DecidableEq K] {k : K} {v : Value} : ∀ {kvs : List (K × Value)}, (kvs.map (·.1)).Nodup → (k, v) ∈ kvs → valueAt kvs k = some v
  | (k', v') :: r, hn, hm => by
    rw [List.map_cons, List.nodup_cons] at hn
    rcases List.mem_cons.mp hm with e | hm
    · cases e; simp [valueAt]
    · have hne : ¬ k' = k := fun e => hn.1 (e ▸ List.mem_map_of_mem (f := (·.1)) hm)
      have := valueAt_mem hn.2 hm
      unfold valueAt at this ⊢
      rw [List.find?_cons_of_neg (by simpa using hne)]; exact this
noncomputable def SignsAt (w : World) (o : Obj) : Prop := ∃ kvs, o.IsDictOf (PySem.strKind PySem.Challenge.rw_om0053_01.prog w) kvs ∧ (kvs.map (·.1)).Nodup ∧ ∀ q ∈ signMap, ∃ t, valueAt kvs q.1 = some (.str q.2 t)
theorem signs_of {w : World} {o : Obj} {kvs : List (Str × Value)} {t1 t2 t3 t4 t5 t6 t7 t8 : Tok} (x : o.IsDictOf (PySem.strKind PySem.Challenge.rw_om0053_01.prog w) kvs) (hn : (kvs.map (·.1)).Nodup)
    (e : kvs = [(Str.ofString "r", .str (Str.ofString "(") t1), (Str.ofString "w", .str (Str.ofString ")") t2), (Str.ofString "x", .str (Str.ofString "\\(\\\"") t3), (Str.ofString "s", .str (Str.ofString "\"(\"") t4), (Str.ofString "S", .str (Str.ofString ")(") t5), (Str.ofString "t", .str (Str.ofString "\\\\") t6), (Str.ofString "T", .str (Str.ofString ")(") t7), (Str.ofString "-", .str (Str.ofString "") t8)]) : SignsAt w o := by
  refine ⟨kvs, x, hn, fun q hq => ?_⟩
  simp only [signMap, List.mem_cons, List.not_mem_nil, or_false] at hq
  subst e
  rcases hq with rfl | rfl | rfl | rfl | rfl | rfl | rfl | rfl
  · exact ⟨t1, valueAt_mem hn (.head _)⟩
  · exact ⟨t2, valueAt_mem hn (.tail _ (.head _))⟩
  · exact ⟨t3, valueAt_mem hn (.tail _ (.tail _ (.head _)))⟩
  · exact ⟨t4, valueAt_mem hn (.tail _ (.tail _ (.tail _ (.head _))))⟩
  · exact ⟨t5, valueAt_mem hn (.tail _ (.tail _ (.tail _ (.tail _ (.head _)))))⟩
  · exact ⟨t6, valueAt_mem hn (.tail _ (.tail _ (.tail _ (.tail _ (.tail _ (.head _))))))⟩
  · exact ⟨t7, valueAt_mem hn (.tail _ (.tail _ (.tail _ (.tail _ (.tail _ (.tail _ (.head _)))))))⟩
  · exact ⟨t8, valueAt_mem hn (.tail _ (.tail _ (.tail _ (.tail _ (.tail _ (.tail _ (.tail _ (.head _))))))))⟩
noncomputable def signOf (p : Str) : Str := (signMap.lookup p).getD (Str.ofString "")
noncomputable def pieceOf (n : Int) : Str := Txt.join (Str.ofString "") ((fmSigns n).tail.map signOf)
noncomputable def One (p : Str) : Prop := ∃ c, c < 128 ∧ p = ⟨#[c]⟩
theorem fm_one (n : Int) : ∀ p ∈ fmSigns n, One p := by
  have key : ∀ p : Str, p.cps.size = 1 → (p.cps.toList.all (· < 128)) = true → One p := fun p h1 h2 => by
    obtain ⟨⟨l⟩⟩ := p
    match l, h1 with
    | [c], _ => exact ⟨c, by simpa using h2, rfl⟩
  exact fmSigns_all (key _ (by decide) (by decide)) (key _ (by decide) (by decide)) (fun es he q hq => key _ ((by decide : ∀ es ∈ fmTabs, ∀ q ∈ es, q.2.cps.size = 1) es he q hq) ((by decide : ∀ es ∈ fmTabs, ∀ q ∈ es, (q.2.cps.toList.all (· < 128)) = true) es he q hq)) n
theorem one_at : ∀ {l : List Str} {i c : Nat}, (∀ p ∈ l, One p) → (l.flatMap (·.cps.toList))[i]? = some c → l[i]? = some ⟨#[c]⟩
  | [], _, _, _, h => by simp at h
  | p :: r, i, c, hl, h => by
    obtain ⟨d, _, rfl⟩ := hl p (.head _)
    rw [List.flatMap_cons] at h
    match i, h with
    | 0, h => simp at h; subst h; rfl
    | i + 1, h => simp at h; rw [List.getElem?_cons_succ]; exact one_at (fun q hq => hl q (.tail _ hq)) (by simpa using h)
theorem one_len : ∀ {l : List Str}, (∀ p ∈ l, One p) → (l.flatMap (·.cps.toList)).length = l.length ∧ ∀ c ∈ l.flatMap (·.cps.toList), c < 128
  | [], _ => ⟨rfl, fun _ h => by simp at h⟩
  | p :: r, hl => by
    obtain ⟨d, hd, rfl⟩ := hl p (.head _)
    obtain ⟨h1, h2⟩ := one_len (l := r) fun q hq => hl q (.tail _ hq)
    rw [List.flatMap_cons]
    refine ⟨by simpa using h1, fun c hc => ?_⟩
    simp only [List.cons_append, List.nil_append, List.mem_cons] at hc
    rcases hc with rfl | hc
    · exact hd
    · exact h2 c hc
theorem fm_keys (n : Int) : ∀ p ∈ (fmSigns n).tail, ∃ v, (p, v) ∈ signMap ∧ signOf p = v := by
  have e : (fmSigns n).tail = fmTabs.tail.mapIdx fun i es => fmPick n (i + 1) es := rfl
  have key : ∀ p : Str, (signMap.lookup p).isSome = true → ∃ v, (p, v) ∈ signMap ∧ signOf p = v := fun p hp => by
    obtain ⟨v, hv⟩ := Option.isSome_iff_exists.mp hp
    refine ⟨v, ?_, by rw [signOf, hv]; rfl⟩
    clear hp
    generalize signMap = L at hv
    induction L with
    | nil => cases hv
    | cons q r ih =>
      obtain ⟨q1, q2⟩ := q
      rw [List.lookup_cons] at hv
      split at hv
      · rename_i hb
        cases hv; rw [eq_of_beq hb]; exact .head _
      · exact .tail _ (ih hv)
  intro p hp
  rw [e] at hp
  obtain ⟨i, hi, e⟩ := List.mem_mapIdx.mp hp
  rw [← e]
  have h2 : fmPick n (i + 1) [] = Str.ofString "-" := by rw [fmPick, if_neg (Nat.succ_ne_zero i)]
  have all : ∀ es : List (Int × Str), (∀ q ∈ es, ∃ v, (q.2, v) ∈ signMap ∧ signOf q.2 = v) → ∃ v, (fmPick n (i + 1) es, v) ∈ signMap ∧ signOf (fmPick n (i + 1) es) = v := fun es => by
    induction es with
    | nil => intro _; rw [h2]; exact key _ (by decide)
    | cons q r ih =>
      intro h
      obtain ⟨b, c⟩ := q
      rw [fmPick]
      split
      · exact h _ (.head _)
      · exact ih fun q hq => h q (.tail _ hq)
  exact all _ fun q hq => key _ ((by decide : ∀ es ∈ fmTabs.tail, ∀ q ∈ es, (signMap.lookup q.2).isSome = true) _ (List.getElem_mem hi) q hq)
theorem fm_cps (n : Int) : (fmOf n).cps.toList = (fmSigns n).flatMap (·.cps.toList) := join_list_eq _
theorem fm_size (n : Int) : (fmOf n).length = 10 := by
  have h := (one_len (fm_one n)).1
  rw [← fm_cps] at h
  have h2 : (fmSigns n).length = 10 := rfl
  rw [h2] at h
  exact (Array.length_toList (xs := (fmOf n).cps)).symm.trans h
theorem fm_tail (n : Int) : (Txt.slice (fmOf n) (some 1) none).cps.toList = (fmSigns n).tail.flatMap (·.cps.toList) := by
  have h := slice_from (fmOf n) (a := 1) (by rw [fm_size]; decide)
  rw [show ((1 : Nat) : Int) = 1 from rfl] at h
  rw [h, fm_cps]
  have h1 := fm_one n
  have hne : (fmSigns n) ≠ [] := by intro h; have : (fmSigns n).length = 10 := rfl; rw [h] at this; cases this
  generalize fmSigns n = l at h1 hne
  match l, hne with
  | p :: r, _ =>
    obtain ⟨d, _, rfl⟩ := h1 p (.head _)
    rw [List.flatMap_cons]; rfl
section
variable {prog : Program} {w : World} {A : Around} {E : Value → Shared → Prop}
theorem evalPairs_str {hp : Heap} {g : Array GenState} {d : Drawn} {tk : Nat} {os : OsState} {k v : Str} {n n' : Nat} {p p' pos : Pos} {env : Env} {rest : List (Sem Value × Sem Value)} {Q : List (Value × Value) → Shared → Prop}
    (h : ∀ t1 t2 tk', wpAny (model prog w) A (evalPairs rest) (fun vs s₃ => Q ((.str k t1, .str v t2) :: vs) s₃) E ⟨hp, g, d, tk', os⟩) :
    wpAny (model prog w) A (evalPairs ((eval (.Constant (.str k) n p) env, do let x ← eval (.Constant (.str v) n' p') env; standAt pos; pure x) :: rest)) Q E ⟨hp, g, d, tk, os⟩ :=
  evalPairs_cons (wpAny_Constant_str (wpAny_bind (wpAny_Constant_str (wpAny_bind (wpAny_standAt (wpAny_pure (h _ _ _)))))))
theorem pairTrees_str {hp : Heap} {g : Array GenState} {d : Drawn} {tk : Nat} {os : OsState} {k v : Str} {n n' : Nat} {p p' pos : Pos} {env : Env} {ks : List (Option Expr)} {es : List Expr} {Q : List (Value × Value) → Shared → Prop}
    (h : ∀ t1 t2 tk', wpAny (model prog w) A (evalPairs (pairTrees ks es env pos)) (fun vs s₃ => Q ((.str k t1, .str v t2) :: vs) s₃) E ⟨hp, g, d, tk', os⟩) :
    wpAny (model prog w) A (evalPairs (pairTrees (some (.Constant (.str k) n p) :: ks) (.Constant (.str v) n' p' :: es) env pos)) Q E ⟨hp, g, d, tk, os⟩ := evalPairs_str h
theorem pairTrees_nil {s : Shared} {pos : Pos} {env : Env} {Q : List (Value × Value) → Shared → Prop} (h : Q [] s) : wpAny (model prog w) A (evalPairs (pairTrees [] [] env pos)) Q E s := evalPairs_nil h
theorem signs_nodup : ([Str.ofString "r", Str.ofString "w", Str.ofString "x", Str.ofString "s", Str.ofString "S", Str.ofString "t", Str.ofString "T", Str.ofString "-"] : List Str).Nodup := by decide
end
theorem frCanon1 {h₀ h : Heap} {L : Addr} {m : Str → Option Value} {a : Str} {v1 : Option Value} (F : Fr h₀ L h m) (h1 : m a = v1) : ∃ rest : Str → Option Value, Fr h₀ L h (fun y => if y = a then v1 else rest y) := by
  obtain ⟨rest, rfl⟩ := canon1 h1
  exact ⟨rest, F⟩
end Mine

end
section
open PySem PySem.W PySem.Calls PyProof.Rows
set_option Elab.async false
set_option linter.unusedVariables false
namespace Mine
open PySem.W.X
theorem letGo_name {M : Model} {A : Around} {E : Value → Shared → Prop} {s : Shared} {x : Str} {p : Pos} {it v : Value} {Q : Unit → Shared → Prop} (h : Q () s) : wpAny M A (letOwnedTupleGo (.Name x p) it v) Q E s := wpAny_pure h
set_option maxHeartbeats 1000000 in
theorem comp_signs {w : World} {A : Around} {E : Value → Shared → Prop} {env : Env} {iter : Expr} {p1 p2 p3 pt pos : Pos} {scope : Scope} {cl : List (Str × Addr)} {s₂ : Shared} {I D Cc : Addr} {z : Str} {t : Tok} {tl : List Str} {oD : Obj} {kvs : List (Str × Value)}
    {RR : Value → Addr → Result → Shared → Prop} (hh : A.handled = none) (hst : s₂.heap.IsStrIter I "str_ascii_iterator" z t 0) (hz : z.cps.size ≤ 1000)
    (hD : s₂.heap.get? D = some oD) (hK : oD.IsDictOf (PySem.strKind PySem.Challenge.rw_om0053_01.prog w) kvs) (hval : ∀ q ∈ signMap, ∃ t, valueAt kvs q.1 = some (.str q.2 t))
    (hcl : s₂.heap.IsCell Cc (some (.ref D))) (hDI : D ≠ I) (hCI : Cc ≠ I) (hzl : ∀ (i c : Nat), z.cps[i]? = some c → tl[i]? = some (⟨#[c]⟩ : Str)) (hlen : tl.length = z.cps.size) (hkey : ∀ p ∈ tl, ∃ v, (p, v) ∈ signMap ∧ signOf p = v)
    (hcell : ∀ y ∈ scope.names, y.2 ≠ .cell) (hkind : scope.kind = .function) (hlk : cl.lookup (Str.ofString "signs") = some Cc) (hks : ∀ C, (compEnvC scope cl C env).kindOf (Str.ofString "signs") = some .cell) (hkl : ∀ C, (compEnvC scope cl C env).kindOf (Str.ofString "sign") = some .local)
    (fin : ∀ D' C h tk g m ys k, (∀ b o, b ≠ I → s₂.heap.get? b = some o → h.get? b = some o) → GOk s₂.gens g → s₂.heap.get? D' = none → s₂.heap.get? C = none → D' ≠ C → h.Ns C m → h.get? D' = some (W.listOf ys.toArray k) → StrsAre ys (tl.map signOf) →
      RR (.ref D') C (.ok .next) { s₂ with heap := h, toks := tk, gens := g }) :
    wpAny (model PySem.Challenge.rw_om0053_01.prog w) A (newList []) (fun acc s₃ => wpAny (model PySem.Challenge.rw_om0053_01.prog w) A (newFunctionEnv scope env.globals cl [] env.qual none .none (some env)) (fun cenv s₄ =>
      codeAny (model PySem.Challenge.rw_om0053_01.prog w) A (.compStart (.ListComp (.Subscript (.Name (Str.ofString "signs") p1) (.Name (Str.ofString "sign") p2) p3) [⟨.Name (Str.ofString "sign") pt, iter, [], 0⟩] scope pos) 0 (.ref I) acc { cenv with scope := relabel scope env }) (RR acc cenv.locals) s₄) E s₃) E s₂ := by
  have hIs : ∃ o, s₂.heap.get? I = some o := let ⟨o, e, _⟩ := hst; ⟨o, e⟩
  obtain ⟨oI, eI⟩ := hIs
  refine block (P' := fun _ => True) (Walks.strAscii hh I z t) (by rw [sizeLine_eq]; (first | lia | omega)) (fun i h st => let ⟨o, e, _⟩ := st; ⟨o, e⟩) hcell hkind hst (fun b hb => by rcases List.mem_singleton.mp hb with rfl; exact Heap.lt_size eI) (fun i s' v Q' E' _ _ h => letGo_name h) (fun _ _ _ => trivial)
    (fun X i ys h => StrsAre ys ((tl.take i).map signOf)) (fun _ _ _ _ _ _ h => h) (fun _ => .nil) ?turn ?fin
  case fin =>
    intro D' C h tk g m ys k hk go hD0 hC0 hDC _ _ hns hl _ hA
    refine fin D' C h tk g m ys k hk go hD0 hC0 hDC hns hl ?_
    rwa [← hlen, List.take_length] at hA
  case turn =>
    intro C D' i v ys m s₃ E' hi hP hs₃ hk₃ hex hC0 hCI' hns hA
    obtain ⟨h₃, tk₃, g₃, rfl, go₃⟩ := hs₃
    obtain ⟨c, u, hc, rfl⟩ := hP
    have hti := hzl i c hc
    obtain ⟨v, hm, hs⟩ := hkey _ (List.mem_of_getElem? hti)
    obtain ⟨tv, hv⟩ := hval _ hm
    have hD₃ := hk₃ _ _ hDI hD
    have DC : D ≠ C := fun z => by rw [z, hC0] at hD; cases hD
    obtain ⟨oc, hoc, dc⟩ := hcl
    have CC : Cc ≠ C := fun z => by rw [z, hC0] at hoc; cases hoc
    have hoc₃ := hk₃ _ _ hCI hoc
    refine wpAny_assign_Name (wpAny_storeName_local (hkl C) hns (fun h₄ hn₄ hs₄ => ?_) (by simp [compEnvC, relabel, hkind]))
    replace hs₄ : Heap.SameBut C h₃ h₄ := hs₄
    refine wpAny_tests_nil ?_
    simp only [if_true]
    have hD₄ : h₄.DictOf (PySem.strKind PySem.Challenge.rw_om0053_01.prog w) D kvs := Heap.dictOf_iff.mpr ⟨oD, (hs₄.2 _ DC).trans hD₃, hK⟩
    refine wpAny_Subscript_Name slot_dict_getitem.lookup (wpAny_Name (wpAny_loadName_cell (c := Cc) (v := .ref D) hkind (hks C) hlk ⟨oc, (hs₄.2 _ CC).trans hoc₃, dc⟩ (wpAny_Name (wpAny_loadName_local (v := .str ⟨#[c]⟩ u) hkind (hkl C) hn₄ (by simp) ⟨hD₄.typeIs, wpAny_getItem_of (f := valueAt kvs) (by simp [PySem.strKind, Value.isStrOf]) hD₄.mapOf hv ?_⟩) (by decide))) (by decide))
    refine ⟨⟨h₄, _, g₃, _, rfl, GOk.refl _, fun b o hb e => (hs₄.2 b hb).trans e, hn₄⟩, ?_⟩
    rw [List.take_add_one, hti, List.map_append]
    show StrsAre _ (_ ++ [signOf _])
    rw [hs]
    exact strsAre_snoc hA
end Mine

end
section
open PySem PySem.W PySem.Calls PyProof.Rows
set_option Elab.async false
set_option linter.unusedVariables false
namespace Mine
open PySem.W.X
local macro_rules | `(tactic| walk_at "eval ListComp") => `(tactic| (k_here; refine Halt.mk ?_))
local macro_rules | `(tactic| walk_at "eval ListComp Subscript") => `(tactic| (k_here; refine Halt.mk ?_))
local macro_rules | `(tactic| walk_at "call ref") => `(tactic| (k_here; (with_reducible show wpAny _ _ (call (Value.ref 98) [Value.int _ _]) _ _ _); refine Halt.mk ?_))
local macro_rules | `(tactic| walk_at "eval Dict") => `(tactic| (k_here; refine Halt.mk ?_))
local macro_rules | `(tactic| walk_at "storeName") => `(tactic| walk_at "my_store")
set_option maxRecDepth 100000 in
set_option maxHeartbeats 8000000 in
theorem piece_spec0 : ∀ (w : World) (mg mb : Str → Option Value) (s : Shared) (Q E : Value → Shared → Prop) (n : Int) (t : Tok),
    (Mine.K2 w.params).In s.heap → TopRead Mine.myView LS mg mb s.heap → 0 ≤ n → n < 65536 → (∀ (v : Value) (h' : Heap) (tk : Nat) (g' : Array GenState), Kp s.heap h' → GOk s.gens g' → (StrIs (pieceOf n)) s.heap v h' → Q v { s with heap := h', toks := tk, gens := g' }) →
    wpAny (model PySem.Challenge.rw_om0053_01.prog w) (AA 17) (call (.ref 103) [.int n t]) Q E s := by
  k_fill
  intro w mg mb s Q E n t X T h0 hn hret
  refine wpAny_call ?_
  k_dflt (refine' call_cellsN (binds := [(Str.ofString "bits", .int n t)]) ?k1 ?k2 ?k3 ?k4 ?k5 ?k6 ?k7 ?k8 ?_ ?c1 ?c2 ?c3; (case k2 => exact X _ _ (by k_is)); (case k3 => exact rfl); (case k1 => decide); (case k4 => exact T.nolimit); (case k5 => exact codeRec_of X (by k_is)); (case k6 => exact rfl); (case k7 => exact kindsX rfl _); (case k8 => decide); (case c1 => exact rfl); (case c2 => exact rfl); (case c3 => exact rfl))
  intro h1 tk1 cells F1 N1 Y1
  k_fold
  obtain ⟨oc, rfl, dc⟩ := CellsAre.one (n := Str.ofString "signs") (c := s.heap.objs.size + 1) Y1
  obtain ⟨rest, F1⟩ := frCanon1 (a := Str.ofString "bits") (v1 := some (.int n t)) F1 rfl
  clear Y1
  k_steps
  refine Halt.go ?_
  refine' kdn_str ?q ?F ?N ?b ?a ?l ?e ?n ?_
  case q => rfl
  case F => exact F1
  case N => exact N1
  case b => exact T.nolimit
  case a => rfl
  case l => rfl
  case e => exact List.cons_ne_nil _ _
  case n => exact Nat.le_of_ble_eq_true rfl
  intro D h2 oD F2 N2 hlt _ hD
  refine' pairTrees_str ?_
  intro a1 b1 c1
  refine' pairTrees_str ?_
  intro a2 b2 c2
  refine' pairTrees_str ?_
  intro a3 b3 c3
  refine' pairTrees_str ?_
  intro a4 b4 c4
  refine' pairTrees_str ?_
  intro a5 b5 c5
  refine' pairTrees_str ?_
  intro a6 b6 c6
  refine' pairTrees_str ?_
  intro a7 b7 c7
  refine' pairTrees_str ?_
  intro a8 b8 c8
  refine' pairTrees_nil ?_
  refine' kdn_made_str F2 N2 ?u hD ?k ?n ?_
  case u => exact UpdF.head (fun p hp => by rcases List.mem_singleton.mp hp with rfl; exact Nat.ne_of_lt (hlt _ (.head _)))
  case k => rfl
  case n => exact signs_nodup
  intro h3 oD3 F3 N3 hD3
  generalize (_ + List.length _ : Nat) = tkD
  obtain ⟨kvs, hK, hnd, hval⟩ := signs_of hD3 signs_nodup rfl
  have q1 : @Ne Nat D (s.heap.objs.size + 1) := Nat.ne_of_gt (hlt _ (.head _))
  clear hD3 hD N2 F2 hlt F1 N1
  k_steps
  refine Halt.go ?_
  rw [eval_ListComp]
  refine' wpAny_comprehension_free (use := none) (cl := [(Str.ofString "signs", s.heap.objs.size + 1)]) ?u1 ?u2 ?u3 ?u4 ?u5 ?_
  case u1 => rfl
  case u2 => exact fun _ => rfl
  case u3 => rfl
  case u4 => rfl
  case u5 => decide
  change wpAny _ _ (eval (.Subscript _ _ _) _) _ _ _
  k_steps
  rename Fr _ _ _ _ => F4
  rename News _ _ _ _ => N4
  refine Halt.go ?_
  refine' Spec.use (fm_spec w mg mb n t h0 hn) F4 N4 X T trivial rfl (Nat.le_of_ble_eq_true rfl) (Nat.le_of_ble_eq_true rfl) ?_
  intro v h5 tk5 g5 kp5 go5 po5 F5 N5
  obtain ⟨t5, rfl⟩ := po5
  clear F4 N4
  have hxl : (fmOf n).length ≤ 1000 := by rw [fm_size]; decide
  generalize hx : fmOf n = x at hxl
  k_steps
  rename Fr _ _ _ _ => F6
  rename News _ _ _ _ => N6
  obtain ⟨z, hz⟩ : ∃ z, z = Txt.slice x (some 1) none := ⟨_, rfl⟩
  rw [← hz]
  have hzc : z.cps.toList = (fmSigns n).tail.flatMap (·.cps.toList) := by rw [hz, ← hx]; exact fm_tail n
  clear hz hx hxl
  have hone : ∀ p ∈ (fmSigns n).tail, One p := fun p hp => fm_one n p (List.mem_of_mem_tail hp)
  have h9 : ((fmSigns n).tail).length = 9 := rfl
  have hz9 : z.cps.size = 9 := by rw [← Array.length_toList, hzc, (one_len hone).1]; exact h9
  have hzl : ∀ i c, z.cps[i]? = some c → (fmSigns n).tail[i]? = some (⟨#[c]⟩ : Str) := fun i c h => one_at hone (by rw [← hzc, Array.getElem?_toList]; exact h)
  have hkey := fm_keys n
  have hpc : pieceOf n = Txt.join (Str.ofString "") ((fmSigns n).tail.map signOf) := rfl
  generalize (fmSigns n).tail = tl at hzc hone h9 hzl hkey hpc
  refine wpAny_pyIter_ascii (Asc.all fun c hc => (one_len hone).2 c (hzc ▸ hc)) ?_
  have go5' : GOk s.gens g5 := go5
  rename Obj.data _ = Data.cell (some (Value.ref D)) => hcel
  obtain ⟨nD1, nD2, nD3⟩ := N6 _ (.head _)
  obtain ⟨nC1, nC2, nC3⟩ := N6 _ (.tail _ (.head _))
  refine' comp_signs (D := D) (Cc := s.heap.objs.size + 1) (z := z) (tl := tl) rfl ?i1 ?i2 ?i3 hK hval ?i4 ?i5 ?i6 hzl ?i7 hkey ?i8 rfl rfl ?i9 ?i10 ?_
  case i1 => exact ⟨_, Heap.get?_push_size _ rfl, rfl, rfl⟩
  case i2 => rw [hz9]; decide
  case i3 => exact Heap.get?_push_of_some _ nD1
  case i4 => exact ⟨_, Heap.get?_push_of_some _ nC1, hcel⟩
  case i5 => exact Nat.ne_of_lt (Heap.lt_size nD1)
  case i6 => exact Nat.ne_of_lt (Heap.lt_size nC1)
  case i7 => rw [h9, hz9]
  case i8 => decide
  case i9 => exact fun _ => rfl
  case i10 => exact fun _ => rfl
  intro D' C h7 tk7 g7 m7 ys k7 hk7 go7 hD0 hC0 hDC hns7 hl7 hys
  refine ⟨m7, hns7, fun h8 hs8 => ?_⟩
  have nC0 : ∀ b o, s.heap.get? b = some o → b ≠ C := fun b o e z => by
    rw [z] at e
    have q := hC0.symm.trans (Heap.get?_push_of_some _ (F6.keep _ _ e))
    cases q
  have kp8 : Kp s.heap h8 := fun b o e => (hs8.2 b (nC0 b o e)).trans (hk7 _ _ (fun z => by have := Heap.lt_size (F6.keep _ _ e); rw [z] at this; exact Nat.lt_irrefl _ this) (Heap.get?_push_of_some _ (F6.keep _ _ e)))
  have hl8 := (hs8.2 _ hDC).trans hl7
  refine spliced_none ?_
  refine join_list ⟨_, hl8, rfl, _, rfl⟩ hys ?sz fun t' k => ?_
  case sz =>
    have : (Str.ofString "").length = 0 := by decide
    have h1 : ∀ p : Str, (signOf p).length ≤ 1000 := fun p => by
      unfold signOf
      cases e : signMap.lookup p with
      | none => decide
      | some v =>
        have key : ∀ L : List (Str × Str), (∀ q ∈ L, q.2.length ≤ 1000) → L.lookup p = some v → v.length ≤ 1000 := by
          intro L hL h
          induction L with
          | nil => cases h
          | cons q r ih =>
            obtain ⟨q1, q2⟩ := q
            rw [List.lookup_cons] at h
            split at h
            · cases h; exact hL _ (.head _)
            · exact ih (fun q hq => hL q (.tail _ hq)) h
        exact key signMap (by decide) e
    have h2 := join_sum (tl.map signOf) (fun q hq => by obtain ⟨p, _, rfl⟩ := List.mem_map.mp hq; exact h1 p) (by rw [List.length_map, h9]; decide)
    rw [this]; (first | lia | omega)
  exact hret _ _ _ _ kp8 (go5'.trans go7) (end_str hpc.symm)
theorem piece_spec (w : World) (mg mb : Str → Option Value) (n : Int) (t : Tok) (h0 : 0 ≤ n) (hn : n < 65536) : Spec w mg mb 17 103 [.int n t] (fun _ => True) (StrIs (pieceOf n)) :=
  fun s Q E X T _ hret => piece_spec0 w mg mb s Q E n t X T h0 hn hret
end Mine

end
section

open PySem PySem.W PySem.Calls PyProof.Rows
set_option Elab.async false
set_option linter.unusedVariables false
namespace Mine
open PySem.W.X
open PySem.SeqAt
noncomputable def MovesAt (h : Heap) (l : Addr) (ms : List (Int × Int)) : Prop := ∃ items, h.IsList l items ∧ items.size = ms.length ∧ ∀ (i : Nat) (p : Int × Int), ms[i]? = some p → ∃ a, items[i]? = some (Value.ref a) ∧ L2 h a p
noncomputable def canN : Nat → Int → List (Int × Int) → Bool
  | 0, h, _ => h == 0
  | n + 1, h, ms => (List.range ms.length).any fun k => match ms[k]? with
    | some p => decide (0 ≤ h + p.1) && canN n (h + p.2) (ms.eraseIdx k)
    | none => false
theorem MovesAt.keep {h h' : Heap} {l : Addr} {ms : List (Int × Int)} (x : MovesAt h l ms) (k : Kp h h') : MovesAt h' l ms :=
  let ⟨items, hl, hs, hp⟩ := x
  ⟨items, isList_keep hl k, hs, fun i p e => let ⟨a, e1, t1, t2, e2⟩ := hp i p e; ⟨a, e1, t1, t2, isList_keep e2 k⟩⟩
section
variable {prog : Program} {w : World} {A : Around} {E : Value → Shared → Prop} {s : Shared} {l b : Addr} {items : Array Value} {Q : Value → Shared → Prop}
theorem eq_nil (hl : s.heap.IsList l items) (hb : s.heap.IsList b #[]) (hu : A.units < cLine) (h : Q (.bool (items.size == 0)) s) : wpAny (model prog w) A (compareOp .Eq (.ref l) (.ref b)) Q E s := by
  by_cases hz : items.size = 0
  · refine RcAt.lists (e := fun _ => true) hl hb (by rw [hz]; rfl) hu (fun j h1 => by (first | lia | omega)) prog w E Q ?_
    rw [hz] at h ⊢; exact h
  · refine RcAt.lists_lengths hl hb (by simpa using hz) hu prog w E Q ?_
    rw [beq_eq_false_iff_ne.mpr hz] at h; exact h
theorem ne_nil (hl : s.heap.IsList l items) (hb : s.heap.IsList b #[]) (hu : A.units < cLine) (h : Q (.bool (items.size != 0)) s) : wpAny (model prog w) A (compareOp .NotEq (.ref l) (.ref b)) Q E s := by
  by_cases hz : items.size = 0
  · refine RcNeAt.lists (e := fun _ => true) hl hb (by rw [hz]; rfl) hu (fun j h1 => by (first | lia | omega)) prog w E Q ?_
    rw [hz] at h ⊢; exact h
  · refine RcNeAt.lists_lengths hl hb (by simpa using hz) hu prog w E Q ?_
    rw [bne_iff_ne.mpr hz] at h; exact h
theorem pick_upto (items : Array Value) (k : Nat) : slicePick items none (some (k : Int)) none = (items.toList.take k).toArray := by
  have e : sliceBounds none (some (k : Int)) none items.size = (((0 : Nat) : Int), ((min k items.size : Nat) : Int), 1) := by
    simp only [sliceBounds, Option.getD_none, show (1 : Int) > 0 by decide, if_true, if_neg (show ¬ ((k : Int) < 0) by (first | lia | omega))]
    congr 1
    congr 1
    (first | lia | omega)
  rw [kmk_pick_nat _ e, List.drop_zero, Nat.sub_zero, ← Array.length_toList, kmk_take_min]
theorem pick_from (items : Array Value) (k : Nat) : slicePick items (some (k : Int)) none none = (items.toList.drop k).toArray := by
  have e : sliceBounds (some (k : Int)) none none items.size = (((min k items.size : Nat) : Int), ((items.size : Nat) : Int), 1) := by
    simp only [sliceBounds, Option.getD_none, show (1 : Int) > 0 by decide, if_true, if_neg (show ¬ ((k : Int) < 0) by (first | lia | omega))]
    congr 1
    (first | lia | omega)
  rw [kmk_pick_nat _ e, ← Array.length_toList, kmk_drop_min, List.take_of_length_le (by rw [List.length_drop]; (first | lia | omega))]
theorem MovesAt.erase {h h' : Heap} {l d : Addr} {ms : List (Int × Int)} {k n : Nat} (hl : h.IsList l items) (hs : items.size = ms.length) (hp : ∀ (i : Nat) (p : Int × Int), ms[i]? = some p → ∃ a, items[i]? = some (Value.ref a) ∧ L2 h a p) (kp : Kp h h')
    (hd : h'.get? d = some (W.listOf (items.toList.take k ++ items.toList.drop (k + 1)).toArray n)) : MovesAt h' d (ms.eraseIdx k) := by
  rw [← List.eraseIdx_eq_take_drop_succ] at hd
  refine ⟨_, ⟨_, hd, rfl, _, rfl⟩, ?_, fun i p e => ?_⟩
  · rw [List.size_toArray, List.length_eraseIdx, List.length_eraseIdx, Array.length_toList, hs]
  · rw [List.getElem?_eraseIdx] at e
    have go : ∀ j, ms[j]? = some p → ∃ a, items.toList[j]? = some (Value.ref a) ∧ L2 h' a p := fun j e => let ⟨a, e1, t1, t2, e2⟩ := hp j p e; ⟨a, by rw [Array.getElem?_toList]; exact e1, t1, t2, isList_keep e2 kp⟩
    rw [List.getElem?_toArray, List.getElem?_eraseIdx]
    split at e
    · rename_i hlt; rw [if_pos hlt]; exact go _ e
    · rename_i hlt; rw [if_neg hlt]; exact go _ e
theorem add_listsH {vs ws : List Value} (hl : s.heap.IsList l vs.toArray) (hb : s.heap.IsList b ws.toArray) (hsz : vs.length + ws.length ≤ sizeLine)
    (h : ∀ h' D, s.heap.get? D = none → Kp s.heap h' → h'.get? D = some (W.listOf (vs ++ ws).toArray 0) → Q (.ref D) { s with heap := h' }) :
    wpAny (model prog w) A (binaryOp .Add (.ref l) (.ref b)) Q E s := by
  obtain ⟨⟨cls, dd, data, sl⟩, ho, hc, n, hd⟩ := id hl
  obtain ⟨⟨cls2, dd2, data2, sl2⟩, ho2, hc2, n2, hd2⟩ := id hb
  simp only at hc hd hc2 hd2
  subst hc hd hc2 hd2
  have e : vs.toArray ++ ws.toArray = (vs ++ ws).toArray := by simp
  refine concat_meets ⟨_, ho, rfl⟩ ⟨_, ho2, rfl⟩ noFill_list_add seq_list_add PySem.F.slot_list_add PySem.F.entry_list_add (PySem.F.args_list_add_2 _ _) (list_addW l b vs.toArray ws.toArray n n2 dd dd2 sl sl2 (by simpa using hsz)) ⟨ho, ho2, ?_⟩
  rw [e]
  refine h _ _ ?_ (fun b o x => Heap.get?_push_of_some _ x) (Heap.get?_push_size _ rfl)
  cases q : s.heap.get? s.heap.objs.size with
  | none => rfl
  | some o => exact absurd (Heap.lt_size q) (Nat.lt_irrefl _)
end
end Mine

end
section
open PySem PySem.W PySem.Calls PyProof.Rows
set_option Elab.async false
set_option linter.unusedVariables false
namespace Mine
open PySem.W.X
section
variable {prog : Program} {w : World} {A : Around} {E : Value → Shared → Prop} {s : Shared} {e : Env} {l a cm ch : Addr} {items : Array Value} {m : Str → Option Value} {i : Nat} {ti : Tok}
/-- moves[k][j] -/
theorem ev_mv {Q : Value → Shared → Prop} {p1 p2 p3 p4 p5 : Pos} {kd j : Nat} {p : Int × Int} {x : Int}
    (hk : e.scope.kind = .function) (hkm : e.kindOf (Str.ofString "moves") = some .cell) (hkk : e.kindOf (Str.ofString "k") = some .local) (hcm : e.cells.lookup (Str.ofString "moves") = some cm) (hc : s.heap.IsCell cm (some (.ref l)))
    (hn : s.heap.Ns e.locals m) (hm : m (Str.ofString "k") = some (.int i ti)) (hl : s.heap.IsList l items) (hx : items[i]? = some (.ref a)) (ha : L2 s.heap a p) (hi : i ≤ 1000) (hj : (j = 0 ∧ x = p.1) ∨ (j = 1 ∧ x = p.2))
    (h : ∀ t tk, Q (.int x t) { s with toks := tk }) :
    wpAny (model prog w) A (eval (.Subscript (.Subscript (.Name (Str.ofString "moves") p1) (.Name (Str.ofString "k") p2) p3) (.Constant (.int (j : Int)) kd p4) p5) e) Q E s := by
  obtain ⟨t1, t2, ha⟩ := ha
  have ha' : ({ s with toks := s.toks + 1 } : Shared).heap.IsList a #[.int p.1 t1, .int p.2 t2] := ha
  refine Subscript_ (Subscript_ (wpAny_Name (wpAny_loadName_cell hk hkm hcm hc (wpAny_Name (wpAny_loadName_local hk hkk hn hm (tail_any (ops := [.ref l, .int i ti]) hl.typeIs slot_list_getitem.lookup (wpAny_getItem_list hl (Int.natCast_nonneg i) (by (first | lia | omega)) (x := .ref a) (by rw [Int.toNat_natCast]; exact hx) (wpAny_Constant_int (tail_any (ops := [.ref a, _]) ha'.typeIs slot_list_getitem.lookup ?_ (by with_unfolding_all rfl)))) (by with_unfolding_all rfl))) (by decide))) (by decide)))
  rcases hj with ⟨rfl, rfl⟩ | ⟨rfl, rfl⟩
  · exact wpAny_getItem_list ha' (x := .int p.1 t1) (by decide) (by decide) rfl (h _ _)
  · exact wpAny_getItem_list ha' (x := .int p.2 t2) (by decide) (by decide) rfl (h _ _)
/-- height + moves[k][j] -/
theorem ev_hm {Q : Value → Shared → Prop} {p0 p1 p2 p3 p4 p5 p6 : Pos} {kd j : Nat} {p : Int × Int} {x H : Int} {tH : Tok}
    (hk : e.scope.kind = .function) (hkm : e.kindOf (Str.ofString "moves") = some .cell) (hkk : e.kindOf (Str.ofString "k") = some .local) (hcm : e.cells.lookup (Str.ofString "moves") = some cm) (hc : s.heap.IsCell cm (some (.ref l)))
    (hkh : e.kindOf (Str.ofString "height") = some .cell) (hch : e.cells.lookup (Str.ofString "height") = some ch) (hc2 : s.heap.IsCell ch (some (.int H tH)))
    (hn : s.heap.Ns e.locals m) (hm : m (Str.ofString "k") = some (.int i ti)) (hl : s.heap.IsList l items) (hx : items[i]? = some (.ref a)) (ha : L2 s.heap a p) (hi : i ≤ 1000) (hj : (j = 0 ∧ x = p.1) ∨ (j = 1 ∧ x = p.2))
    (h : ∀ t tk, Q (.int (H + x) t) { s with toks := tk }) :
    wpAny (model prog w) A (eval (.BinOp (.Name (Str.ofString "height") p0) .Add (.Subscript (.Subscript (.Name (Str.ofString "moves") p1) (.Name (Str.ofString "k") p2) p3) (.Constant (.int (j : Int)) kd p4) p5) p6) e) Q E s :=
  wpAny_BinOp (wpAny_Name (wpAny_loadName_cell hk hkh hch hc2 (ev_mv hk hkm hkk hcm hc hn hm hl hx ha hi hj fun t tk => add_int (h _ _))) (by decide))
theorem slice_new {Q : Value → Shared → Prop} {env : Env} {value : Expr} {lower upper : Option Expr} {p pos : Pos}
    (h : wpAny (model prog w) A (eval value env) (fun o s₁ => wpAny (model prog w) A (evalPart lower env) (fun vl s₂ => wpAny (model prog w) A (evalPart upper env) (fun vu s₃ =>
      ∃ l items lo hi, o = .ref l ∧ s₃.heap.IsList l items ∧ items.size ≤ sizeLine ∧ IsPart vl lo ∧ IsPart vu hi ∧
        ∀ h' D, s₃.heap.get? D = none → Kp s₃.heap h' → h'.get? D = some (W.listOf (slicePick items lo hi none) 0) → Q (.ref D) { s₃ with heap := h' }) E s₂) E s₁) E s)
    (ht : ∀ o r, letTemporaryGo value o r = pure () := by intro _ _; rfl) :
    wpAny (model prog w) A (eval (.Subscript value (.Slice lower upper none p) pos) env) Q E s := by
  refine wpAny_Subscript_list_slice (wpAny_mono h (fun o s₁ h₁ => wpAny_mono h₁ (fun vl s₂ h₂ => wpAny_mono h₂ (fun vu s₃ h₃ => ?_) fun _ _ x => x) fun _ _ x => x) fun _ _ x => x) ht
  obtain ⟨l, items, lo, hi, e, hl, hz, pl, pu, hQ⟩ := h₃
  refine ⟨l, items, lo, hi, e, hl, hz, pl, pu, hQ _ _ ?_ (fun b o x => Heap.get?_push_of_some _ (Heap.get?_push_of_some _ x)) ?_⟩
  · cases q : s₃.heap.get? (s₃.heap.objs.size + 1) with
    | none => rfl
    | some o => exact absurd (Heap.lt_size q) (Nat.not_lt.mpr (Nat.le_succ _))
  · have hA := Heap.get?_push_size (s₃.heap.push { cls := .type "slice", data := .fields #[vl, vu, .none] }) (o := { cls := .type "list", data := .seq (slicePick items lo hi none) }) rfl
    rw [Heap.size_push] at hA
    exact hA
/-- moves[:k] + moves[k + 1:] -/
theorem ev_rest {Q : Value → Shared → Prop} {p1 p2 p3 p4 p5 p6 p7 p8 p9 p10 p11 : Pos} {kd : Nat} {ms : List (Int × Int)}
    (hk : e.scope.kind = .function) (hkm : e.kindOf (Str.ofString "moves") = some .cell) (hkk : e.kindOf (Str.ofString "k") = some .local) (hcm : e.cells.lookup (Str.ofString "moves") = some cm) (hc : s.heap.IsCell cm (some (.ref l)))
    (hn : s.heap.Ns e.locals m) (hm : m (Str.ofString "k") = some (.int i ti)) (hl : s.heap.IsList l items) (hs : items.size = ms.length) (hp : ∀ (i : Nat) (p : Int × Int), ms[i]? = some p → ∃ a, items[i]? = some (Value.ref a) ∧ L2 s.heap a p) (hsz : ms.length ≤ 1000)
    (h : ∀ h' D tk, s.heap.get? D = none → Kp s.heap h' → MovesAt h' D (ms.eraseIdx i) → Q (.ref D) { s with heap := h', toks := tk }) :
    wpAny (model prog w) A (eval (.BinOp (.Subscript (.Name (Str.ofString "moves") p1) (.Slice none (some (.Name (Str.ofString "k") p2)) none p3) p4) .Add (.Subscript (.Name (Str.ofString "moves") p5) (.Slice (some (.BinOp (.Name (Str.ofString "k") p6) .Add (.Constant (.int 1) kd p7) p8)) none none p9) p10) p11) e) Q E s := by
  refine wpAny_BinOp (slice_new (wpAny_Name (wpAny_loadName_cell hk hkm hcm hc (wpAny_evalPart_none (wpAny_evalPart_some (wpAny_Name (wpAny_loadName_local hk hkk hn hm ⟨l, items, none, some (i : Int), rfl, hl, by rw [sizeLine_eq]; (first | lia | omega), .none, .int _ _, ?_⟩) (by decide))))) (by decide)))
  intro h1 a1 hf1 kp1 hA
  rw [pick_upto] at hA
  have kp1' : Kp s.heap h1 := kp1
  have hl1 := isList_keep hl kp1'
  obtain ⟨oc, ec, dc⟩ := hc
  refine slice_new (wpAny_Name (wpAny_loadName_cell hk hkm hcm ⟨oc, kp1' _ _ ec, dc⟩ (wpAny_evalPart_some (wpAny_BinOp (wpAny_Name (wpAny_loadName_local hk hkk (hn.keeps kp1') hm (wpAny_Constant_int (add_int (wpAny_evalPart_none ⟨l, items, some ((i : Int) + 1), none, rfl, hl1, by rw [sizeLine_eq]; (first | lia | omega), .int _ _, .none, ?_⟩)))) (by decide))))) (by decide))
  intro h2 a2 hf2 kp2 hB
  have e1 : ((i : Int) + 1) = ((i + 1 : Nat) : Int) := by push_cast; rfl
  rw [e1, pick_from] at hB
  have kp2' : Kp h1 h2 := kp2
  refine add_listsH (s := { s with heap := h2, toks := _ }) (vs := items.toList.take i) (ws := items.toList.drop (i + 1)) ⟨_, kp2' _ _ hA, rfl, _, rfl⟩ ⟨_, hB, rfl, _, rfl⟩ (by rw [List.length_take, List.length_drop, Array.length_toList, sizeLine_eq]; (first | lia | omega)) fun h3 D hf3 kp3 hD => ?_
  have kp3' : Kp h2 h3 := kp3
  have k03 : Kp s.heap h3 := fun b o x => kp3' _ _ (kp2' _ _ (kp1' _ _ x))
  refine h h3 D _ ?_ k03 (MovesAt.erase hl hs hp k03 hD)
  cases q : s.heap.get? D with
  | none => rfl
  | some o =>
    have q2 := kp2' _ _ (kp1' _ _ q)
    rw [show h2.get? D = none from hf3] at q2; cases q2
end
end Mine

end
section
open PySem PySem.W PySem.Calls PyProof.Rows
set_option Elab.async false
set_option linter.unusedVariables false
namespace Mine
open PySem.W.X
theorem keep141 : ∀ p : Params, keepIn (Mine.K2 p) (.ref 141) = true := by k_fill; intro p; kernel_rfl
theorem name141 : ∀ p : Params, nsIn (Mine.K2 p) mainGlobals (Str.ofString "_law_can") = some (some (.ref 141)) := by k_fill; intro p; kernel_rfl
noncomputable def canGood (n : Nat) (H : Int) (ms : List (Int × Int)) (k : Nat) : Bool := match ms[k]? with
  | some p => decide (0 ≤ H + p.1) && canN n (H + p.2) (ms.eraseIdx k)
  | none => false
theorem canN_succ (n : Nat) (H : Int) (ms : List (Int × Int)) : canN (n + 1) H ms = (List.range ms.length).any (canGood n H ms) := rfl
/-- what _law_can answers for n moves -/
noncomputable def CanHyp (w : World) (mg mb : Str → Option Value) (A : Around) (n : Nat) : Prop :=
  ∀ (s : Shared) (Q E : Value → Shared → Prop) (H : Int) (t : Tok) (l : Addr) (ms : List (Int × Int)), (Mine.K2 w.params).In s.heap → TopRead Mine.myView LS mg mb s.heap → ms.length = n → MovesAt s.heap l ms →
    (∀ (h' : Heap) (tk : Nat) (g' : Array GenState), Kp s.heap h' → GOk s.gens g' → Q (.bool (canN n H ms)) { s with heap := h', toks := tk, gens := g' }) →
    wpAny (model PySem.Challenge.rw_om0053_01.prog w) A (call (.ref 141) [.int H t, .ref l]) Q E s
theorem can_test {w : World} {mg mb : Str → Option Value} {A : Around} {E : Value → Shared → Prop} {s : Shared} {e : Env} {l cm ch : Addr} {items : Array Value} {m : Str → Option Value} {i n : Nat} {ti : Tok} {Q : Bool → Shared → Prop}
    {p0 p1 p2 p3 p4 p5 p6 p7 p8 p9 q0 q1 q2 q3 q4 q5 q6 q7 q8 r1 r2 r3 r4 r5 r6 r7 r8 r9 r10 r11 : Pos} {k1 k2 k3 k4 : Nat} {p : Int × Int} {H : Int} {tH : Tok} {ms : List (Int × Int)}
    (X : (Mine.K2 w.params).In s.heap) (T : TopRead Mine.myView LS mg mb s.heap) (hcan : CanHyp w mg mb A n)
    (hk : e.scope.kind = .function) (hkm : e.kindOf (Str.ofString "moves") = some .cell) (hkk : e.kindOf (Str.ofString "k") = some .local) (hcm : e.cells.lookup (Str.ofString "moves") = some cm) (hc : s.heap.IsCell cm (some (.ref l)))
    (hkh : e.kindOf (Str.ofString "height") = some .cell) (hch : e.cells.lookup (Str.ofString "height") = some ch) (hc2 : s.heap.IsCell ch (some (.int H tH)))
    (hkc : e.kindOf (Str.ofString "_law_can") = some .globalImplicit) (hg : e.globals = mainGlobals)
    (hn : s.heap.Ns e.locals m) (hm : m (Str.ofString "k") = some (.int i ti)) (hl : s.heap.IsList l items) (hs : items.size = ms.length) (hp : ∀ (i : Nat) (p : Int × Int), ms[i]? = some p → ∃ a, items[i]? = some (Value.ref a) ∧ L2 s.heap a p) (hsz : ms.length ≤ 1000)
    (hi : ms[i]? = some p) (hlen : ms.length = n + 1)
    (h : ∀ (h' : Heap) (tk : Nat) (g' : Array GenState), Kp s.heap h' → GOk s.gens g' → Q (canGood n H ms i) { s with heap := h', toks := tk, gens := g' }) :
    wpAny (model PySem.Challenge.rw_om0053_01.prog w) A (isTrue (.BoolOp .And [
      .Compare (.BinOp (.Name (Str.ofString "height") p0) .Add (.Subscript (.Subscript (.Name (Str.ofString "moves") p1) (.Name (Str.ofString "k") p2) p3) (.Constant (.int 0) k1 p4) p5) p6) [.GtE] [.Constant (.int 0) k2 p7] p8,
      .Call (.Name (Str.ofString "_law_can") q0) [
        .BinOp (.Name (Str.ofString "height") q1) .Add (.Subscript (.Subscript (.Name (Str.ofString "moves") q2) (.Name (Str.ofString "k") q3) q4) (.Constant (.int 1) k3 q5) q6) q7,
        .BinOp (.Subscript (.Name (Str.ofString "moves") r1) (.Slice none (some (.Name (Str.ofString "k") r2)) none r3) r4) .Add (.Subscript (.Name (Str.ofString "moves") r5) (.Slice (some (.BinOp (.Name (Str.ofString "k") r6) .Add (.Constant (.int 1) k4 r7) r8)) none none r9) r10) r11] [] q8] p9) e
      (eval (.BoolOp .And [
      .Compare (.BinOp (.Name (Str.ofString "height") p0) .Add (.Subscript (.Subscript (.Name (Str.ofString "moves") p1) (.Name (Str.ofString "k") p2) p3) (.Constant (.int 0) k1 p4) p5) p6) [.GtE] [.Constant (.int 0) k2 p7] p8,
      .Call (.Name (Str.ofString "_law_can") q0) [
        .BinOp (.Name (Str.ofString "height") q1) .Add (.Subscript (.Subscript (.Name (Str.ofString "moves") q2) (.Name (Str.ofString "k") q3) q4) (.Constant (.int 1) k3 q5) q6) q7,
        .BinOp (.Subscript (.Name (Str.ofString "moves") r1) (.Slice none (some (.Name (Str.ofString "k") r2)) none r3) r4) .Add (.Subscript (.Name (Str.ofString "moves") r5) (.Slice (some (.BinOp (.Name (Str.ofString "k") r6) .Add (.Constant (.int 1) k4 r7) r8)) none none r9) r10) r11] [] q8] p9) e)) Q E s := by
  obtain ⟨a, hx, ha⟩ := hp i p hi
  have hile : i ≤ 1000 := by have := (List.getElem?_eq_some_iff.mp hi).1; (first | lia | omega)
  refine isTrue_and (wpAny_isTrue_Compare1 (ev_hm (j := 0) hk hkm hkk hcm hc hkh hch hc2 hn hm hl hx ha hile (.inl ⟨rfl, rfl⟩) fun t tk => wpAny_Constant_int (ge_int (wpAny_truthy_bool ?_))))
  have hgood : canGood n H ms i = (decide (0 ≤ H + p.1) && canN n (H + p.2) (ms.eraseIdx i)) := by rw [canGood, hi]
  by_cases hge : 0 ≤ H + p.1
  · rw [if_pos (decide_eq_true hge)]
    rw [decide_eq_true hge, Bool.true_and] at hgood
    refine isTrue_and (wpAny_isTrue_value (Call_ (Name_function_global hk hkc (loadGlobal_global (mg := mg) (by rw [hg]; exact T.g) (mg_of X T.g (name141 _)) (callWith_K (K := Mine.K2 w.params) X (keep141 _) (args_cons (ev_hm (j := 1) hk hkm hkk hcm hc hkh hch hc2 hn hm hl hx ha hile (.inr ⟨rfl, rfl⟩) fun t2 tk2 => args_cons (ev_rest (ms := ms) hk hkm hkk hcm hc hn hm hl hs hp hsz fun h' D tk3 hD kp hmv => args_nil ⟨X.keeps kp, ?_⟩))))))))
    refine hcan _ _ _ _ _ D (ms.eraseIdx i) (X.keeps kp) (T.keeps kp) (by rw [List.length_eraseIdx, if_pos (List.getElem?_eq_some_iff.mp hi).1, hlen]; rfl) hmv fun h'' tk4 g4 kp2 go => wpAny_truthy_bool ?_
    have := h h'' tk4 g4 (fun b o x => kp2 _ _ (kp _ _ x)) go
    rw [hgood] at this
    cases hb : canN n (H + p.2) (ms.eraseIdx i) with
    | true => rw [hb] at this; exact isTrue_and_nil this
    | false => rw [hb] at this; exact this
  · rw [if_neg (by simpa using hge)]
    rw [hgood, decide_eq_false hge, Bool.false_and] at h
    exact h s.heap _ s.gens (fun _ _ x => x) (GOk.refl _)
end Mine

end
section
open PySem PySem.W PySem.Calls PyProof.Rows
set_option Elab.async false
set_option linter.unusedVariables false
namespace Mine
open PySem.W.X
set_option maxHeartbeats 1000000 in
theorem comp_can {w : World} {mg mb : Str → Option Value} {A : Around} {E : Value → Shared → Prop} {env : Env} {iter : Expr} {h₀ : Heap} {scope : Scope} {cl : List (Str × Addr)} {s₂ : Shared} {I l cm ch : Addr} {n : Nat} {H : Int} {tH : Tok} {ms : List (Int × Int)}
    {p0 p1 p2 p3 p4 p5 p6 p7 p8 p9 q0 q1 q2 q3 q4 q5 q6 q7 q8 r1 r2 r3 r4 r5 r6 r7 r8 r9 r10 r11 pe pt pos : Pos} {k1 k2 k3 k4 : Nat}
    {RR : Value → Addr → Result → Shared → Prop} (hh : A.handled = none) (X : (Mine.K2 w.params).In h₀) (T : TopRead Mine.myView LS mg mb h₀) (hcan : CanHyp w mg mb A n) (k0 : Kp h₀ s₂.heap) (hI0 : h₀.get? I = none)
    (hst : IsRangeIter s₂.heap I (0 + ((0 : Nat) : Int) * 1) ((ms.length : Int) - ((0 : Nat) : Int)) 1)
    (hc : h₀.IsCell cm (some (.ref l))) (hc2 : h₀.IsCell ch (some (.int H tH))) (hmv : MovesAt h₀ l ms) (hlen : ms.length = n + 1) (hsz : ms.length ≤ 1000)
    (hcell : ∀ y ∈ scope.names, y.2 ≠ .cell) (hkind : scope.kind = .function) (hg : env.globals = mainGlobals)
    (hcm : cl.lookup (Str.ofString "moves") = some cm) (hch : cl.lookup (Str.ofString "height") = some ch)
    (hkm : ∀ C, (compEnvC scope cl C env).kindOf (Str.ofString "moves") = some .cell) (hkh : ∀ C, (compEnvC scope cl C env).kindOf (Str.ofString "height") = some .cell)
    (hkk : ∀ C, (compEnvC scope cl C env).kindOf (Str.ofString "k") = some .local) (hkc : ∀ C, (compEnvC scope cl C env).kindOf (Str.ofString "_law_can") = some .globalImplicit)
    (fin : ∀ D C h tk g m (ys : List Value) k, Kp h₀ h → GOk s₂.gens g → s₂.heap.get? D = none → s₂.heap.get? C = none → D ≠ C → h.Ns C m → h.get? D = some (W.listOf ys.toArray k) → ys.isEmpty = !canN (n + 1) H ms →
      RR (.ref D) C (.ok .next) { s₂ with heap := h, toks := tk, gens := g }) :
    wpAny (model PySem.Challenge.rw_om0053_01.prog w) A (newList []) (fun acc s₃ => wpAny (model PySem.Challenge.rw_om0053_01.prog w) A (newFunctionEnv scope env.globals cl [] env.qual none .none (some env)) (fun cenv s₄ =>
      codeAny (model PySem.Challenge.rw_om0053_01.prog w) A (.compStart (.ListComp (.Name (Str.ofString "k") pe) [⟨.Name (Str.ofString "k") pt, iter, [.BoolOp .And [
      .Compare (.BinOp (.Name (Str.ofString "height") p0) .Add (.Subscript (.Subscript (.Name (Str.ofString "moves") p1) (.Name (Str.ofString "k") p2) p3) (.Constant (.int 0) k1 p4) p5) p6) [.GtE] [.Constant (.int 0) k2 p7] p8,
      .Call (.Name (Str.ofString "_law_can") q0) [
        .BinOp (.Name (Str.ofString "height") q1) .Add (.Subscript (.Subscript (.Name (Str.ofString "moves") q2) (.Name (Str.ofString "k") q3) q4) (.Constant (.int 1) k3 q5) q6) q7,
        .BinOp (.Subscript (.Name (Str.ofString "moves") r1) (.Slice none (some (.Name (Str.ofString "k") r2)) none r3) r4) .Add (.Subscript (.Name (Str.ofString "moves") r5) (.Slice (some (.BinOp (.Name (Str.ofString "k") r6) .Add (.Constant (.int 1) k4 r7) r8)) none none r9) r10) r11] [] q8] p9], 0⟩] scope pos) 0 (.ref I) acc { cenv with scope := relabel scope env }) (RR acc cenv.locals) s₄) E s₃) E s₂ := by
  have eI : ∃ o, s₂.heap.get? I = some o := ⟨_, hst⟩
  obtain ⟨oI, eI⟩ := eI
  refine block (P' := fun _ => True) (Walks.range hh I 0 1 ms.length) (by rw [sizeLine_eq]; (first | lia | omega)) (fun i h st => ⟨_, st⟩) hcell hkind hst (fun b hb => by rcases List.mem_singleton.mp hb with rfl; exact Heap.lt_size eI) (fun i s' v Q' E' _ _ h => letGo_name h) (fun _ _ _ => trivial)
    (fun X i ys h => ys.isEmpty = !((List.range i).any (canGood n H ms))) (fun _ _ _ _ _ _ h => h) (fun _ => rfl) ?turn ?fin
  case fin =>
    intro D C h tk g m ys k hk go hD0 hC0 hDC _ _ hns hl _ hA
    refine fin D C h tk g m ys k (fun b o e => hk b o (fun z => by rw [z, hI0] at e; cases e) (k0 _ _ e)) go hD0 hC0 hDC hns hl ?_
    rw [canN_succ]; exact hA
  case turn =>
    intro C D' i v ys m s₃ E' hi hP hs₃ hk₃ hex hC0 hCI' hns hA
    obtain ⟨h₃, tk₃, g₃, rfl, go₃⟩ := hs₃
    obtain ⟨u, rfl⟩ := hP
    have hv : (0 + (i : Int) * 1) = (i : Int) := by (first | lia | omega)
    rw [hv]
    have hC00 : h₀.get? C = none := by
      cases e : h₀.get? C with
      | none => rfl
      | some o => rw [k0 _ _ e] at hC0; cases hC0
    refine wpAny_assign_Name (wpAny_storeName_local (hkk C) hns (fun h₄ hn₄ hs₄ => ?_) (by simp [compEnvC, relabel, hkind]))
    replace hs₄ : Heap.SameBut C h₃ h₄ := hs₄
    have kp4 : Kp h₀ h₄ := fun b o e => (hs₄.2 b (fun z => by rw [z, hC00] at e; cases e)).trans (hk₃ b o (fun z => by rw [z, hI0] at e; cases e) (k0 _ _ e))
    obtain ⟨items, hl, hs, hp⟩ := hmv.keep kp4
    obtain ⟨oc, ec, dc⟩ := hc
    obtain ⟨oh, eh, dh⟩ := hc2
    obtain ⟨p, hip⟩ : ∃ p, ms[i]? = some p := ⟨_, List.getElem?_eq_getElem hi⟩
    refine wpAny_tests_one (can_test (n := n) (p := p) (ms := ms) (m := fun y => if y = Str.ofString "k" then some (.int i u) else m y) (X.keeps kp4) (T.keeps kp4) hcan (by show (relabel scope env).kind = _; exact hkind) (hkm C) (hkk C) hcm ⟨oc, kp4 _ _ ec, dc⟩ (hkh C) hch ⟨oh, kp4 _ _ eh, dh⟩ (hkc C) hg hn₄ (if_pos rfl) hl hs hp hsz hip hlen fun h₅ tk₅ g₅ kp5 go5 => ?_)
    have kp5' : Kp h₄ h₅ := kp5
    have hn₅ : h₅.Ns C _ := hn₄.keeps kp5'
    have step : ∀ tk', CStep C { s₂ with heap := h₃, toks := tk₃, gens := g₃ } { s₂ with heap := h₅, toks := tk', gens := g₅ } := fun tk' => ⟨h₅, tk', g₅, _, rfl, go5, fun b o hb e => kp5' _ _ ((hs₄.2 b hb).trans e), hn₅⟩
    have hr : (List.range (i + 1)).any (canGood n H ms) = ((List.range i).any (canGood n H ms) || canGood n H ms i) := by rw [List.range_succ, List.any_append]; simp
    cases hb : canGood n H ms i with
    | true =>
      rw [if_pos rfl]
      refine wpAny_Name (wpAny_loadName_local (v := .int i u) hkind (hkk C) hn₅ (by simp) ⟨step _, ?_⟩) (by decide)
      show (ys ++ [Value.int (i : Int) u]).isEmpty = !(List.range (i + 1)).any (canGood n H ms)
      rw [hr, hb]; simp
    | false =>
      rw [if_neg (by decide)]
      refine ⟨step _, ?_⟩
      show ys.isEmpty = !(List.range (i + 1)).any (canGood n H ms)
      rw [hr, hb, Bool.or_false]; exact hA
end Mine

end
section
open PySem PySem.W PySem.Calls PyProof.Rows
set_option Elab.async false
set_option linter.unusedVariables false
namespace Mine
open PySem.W.X
local macro_rules | `(tactic| walk_at "eval ListComp") => `(tactic| (k_here; refine Halt.mk ?_))
local macro_rules | `(tactic| walk_at "eval ListComp Name") => `(tactic| (k_here; refine Halt.mk ?_))
local macro_rules | `(tactic| walk_at "compareOp Eq ref ref") => `(tactic| (k_here; refine Halt.mk ?_))
local macro_rules | `(tactic| walk_at "storeName") => `(tactic| walk_at "my_store")
set_option maxRecDepth 100000 in
set_option maxHeartbeats 8000000 in
theorem can_zero : ∀ (w : World) (mg mb : Str → Option Value) (s : Shared) (Q E : Value → Shared → Prop) (H : Int) (t : Tok) (l : Addr) (ms : List (Int × Int)),
    (Mine.K2 w.params).In s.heap → TopRead Mine.myView LS mg mb s.heap → ms.length = 0 → MovesAt s.heap l ms →
    (∀ (h' : Heap) (tk : Nat) (g' : Array GenState), Kp s.heap h' → GOk s.gens g' → Q (.bool (canN 0 H ms)) { s with heap := h', toks := tk, gens := g' }) →
    wpAny (model PySem.Challenge.rw_om0053_01.prog w) (AA 20) (call (.ref 141) [.int H t, .ref l]) Q E s := by
  k_fill
  intro w mg mb s Q E H t l ms X T hlen hmv hret
  obtain ⟨items, hl, hs, hp⟩ := hmv
  have hz : (items.size == 0) = true := by rw [hs, hlen]; rfl
  refine wpAny_call ?_
  k_dflt (refine' call_cellsN (binds := [(Str.ofString "height", .int H t), (Str.ofString "moves", .ref l)]) ?k1 ?k2 ?k3 ?k4 ?k5 ?k6 ?k7 ?k8 ?_ ?c1 ?c2 ?c3; (case k2 => exact X _ _ (by k_is)); (case k3 => exact rfl); (case k1 => decide); (case k4 => exact T.nolimit); (case k5 => exact codeRec_of X (by k_is)); (case k6 => exact rfl); (case k7 => exact kindsX rfl _); (case k8 => decide); (case c1 => exact rfl); (case c2 => exact rfl); (case c3 => exact rfl))
  intro h1 tk1 cells F1 N1 Y1
  k_fold
  obtain ⟨om, oh, rfl, dm, dh⟩ := CellsAre.two (n := Str.ofString "moves") (c := s.heap.objs.size + 2) (n' := Str.ofString "height") (c' := s.heap.objs.size + 1) Y1
  replace dm : om.data = .cell (some (.ref l)) := dm
  replace dh : oh.data = .cell (some (.int H t)) := dh
  clear Y1
  k_steps
  rename Fr _ _ _ _ => F2
  rename News _ _ _ _ => N2
  refine Halt.go ?_
  refine' eq_nil (items := items) (isList_keep hl F2.keep) (isList_of_news N2 (.head _)) ?u ?_
  case u => k_units
  rw [hz]
  k_steps
  rename Fr _ _ _ _ => F3
  exact hret _ _ _ F3.keep (GOk.refl _)
end Mine

end
section
open PySem PySem.W PySem.Calls PyProof.Rows
set_option Elab.async false
set_option linter.unusedVariables false
namespace Mine
open PySem.W.X
local macro_rules | `(tactic| walk_at "eval ListComp") => `(tactic| (k_here; refine Halt.mk ?_))
local macro_rules | `(tactic| walk_at "eval ListComp Name") => `(tactic| (k_here; refine Halt.mk ?_))
local macro_rules | `(tactic| walk_at "compareOp NotEq ref ref") => `(tactic| (k_here; refine Halt.mk ?_))
local macro_rules | `(tactic| walk_at "compareOp Eq ref ref") => `(tactic| (k_here; refine Halt.mk ?_))
local macro_rules | `(tactic| walk_at "pyIter ref") => `(tactic| (k_here; refine Halt.mk ?_))
theorem push_none {h : Heap} {o : Obj} {b : Addr} (x : (h.push o).get? b = none) : h.get? b = none := by
  cases q : h.get? b with
  | none => rfl
  | some o' => rw [Heap.get?_push_of_some _ q] at x; cases x
local macro_rules | `(tactic| walk_at "storeName") => `(tactic| walk_at "my_store")
set_option maxRecDepth 100000 in
set_option maxHeartbeats 8000000 in
theorem can_19 : ∀ (w : World) (mg mb : Str → Option Value) (s : Shared) (Q E : Value → Shared → Prop) (n : Nat) (H : Int) (t : Tok) (l : Addr) (ms : List (Int × Int)),
    (Mine.K2 w.params).In s.heap → TopRead Mine.myView LS mg mb s.heap → CanHyp w mg mb (AA 20) n → ms.length = n + 1 → n ≤ 5 → MovesAt s.heap l ms →
    (∀ (h' : Heap) (tk : Nat) (g' : Array GenState), Kp s.heap h' → GOk s.gens g' → Q (.bool (canN (n + 1) H ms)) { s with heap := h', toks := tk, gens := g' }) →
    wpAny (model PySem.Challenge.rw_om0053_01.prog w) (AA 19) (call (.ref 141) [.int H t, .ref l]) Q E s := by
  k_fill
  intro w mg mb s Q E n H t l ms X T hcan hlen hn5 hmv hret
  obtain ⟨items, hl, hs, hp⟩ := hmv
  have hz : (items.size == 0) = false := by rw [hs, hlen]; rfl
  refine wpAny_call ?_
  k_dflt (refine' call_cellsN (binds := [(Str.ofString "height", .int H t), (Str.ofString "moves", .ref l)]) ?k1 ?k2 ?k3 ?k4 ?k5 ?k6 ?k7 ?k8 ?_ ?c1 ?c2 ?c3; (case k2 => exact X _ _ (by k_is)); (case k3 => exact rfl); (case k1 => decide); (case k4 => exact T.nolimit); (case k5 => exact codeRec_of X (by k_is)); (case k6 => exact rfl); (case k7 => exact kindsX rfl _); (case k8 => decide); (case c1 => exact rfl); (case c2 => exact rfl); (case c3 => exact rfl))
  intro h1 tk1 cells F1 N1 Y1
  k_fold
  obtain ⟨om, oh, rfl, dm, dh⟩ := CellsAre.two (n := Str.ofString "moves") (c := s.heap.objs.size + 2) (n' := Str.ofString "height") (c' := s.heap.objs.size + 1) Y1
  replace dm : om.data = .cell (some (.ref l)) := dm
  replace dh : oh.data = .cell (some (.int H t)) := dh
  clear Y1
  k_steps
  rename Fr _ _ _ _ => F2
  rename News _ _ _ _ => N2
  refine Halt.go ?_
  refine' eq_nil (items := items) (isList_keep hl F2.keep) (isList_of_news N2 (.head _)) ?u ?_
  case u => k_units
  rw [hz]
  k_steps
  refine Halt.go ?_
  rw [eval_ListComp]
  refine' wpAny_comprehension_free (use := none) (cl := [(Str.ofString "moves", s.heap.objs.size + 2), (Str.ofString "height", s.heap.objs.size + 1)]) ?u1 ?u2 ?u3 ?u4 ?u5 ?_
  case u1 => rfl
  case u2 => exact fun _ => rfl
  case u3 => rfl
  case u4 => rfl
  case u5 => decide
  change wpAny _ _ (eval (.Call _ _ _ _) _) _ _ _
  have hl2 := isList_keep hl F2.keep
  k_steps
  rename Fr _ _ _ _ => F5
  rename News _ _ _ _ => N5
  rename IsRange _ _ _ _ _ _ _ _ => hr
  have hsz6 : items.size ≤ 6 := by (first | lia | omega)
  refine Halt.go ?_
  refine' wpAny_pyIter_range hr ?small ?_
  case small =>
    match items.size, hsz6 with
    | 0, _ | 1, _ | 2, _ | 3, _ | 4, _ | 5, _ | 6, _ => rfl
  have nM := N5.get (.tail _ (.head _))
  have nH := N5.get (.tail _ (.tail _ (.head _)))
  have mv5 : MovesAt _ l ms := MovesAt.keep ⟨items, hl, hs, hp⟩ F5.keep
  refine' comp_can (l := l) (cm := s.heap.objs.size + 2) (ch := s.heap.objs.size + 1) (n := n) (H := H) (tH := t) (ms := ms) rfl (X.keeps F5.keep) (T.keeps F5.keep) ?hcan (fun b o e => Heap.get?_push_of_some _ e) ?hI ?st ⟨om, nM, dm⟩ ⟨oh, nH, dh⟩ mv5 hlen (by (first | lia | omega)) ?c1 rfl rfl rfl rfl ?m1 ?m2 ?m3 ?m4 ?_
  case hcan => exact fun s' Q' E' H' t' l' ms' X' T' hl' hm' hr' => AA_mono 20 (hcan s' Q' E' H' t' l' ms' X' T' hl' hm' hr') rfl (Nat.le_of_ble_eq_true rfl) (Nat.le_of_ble_eq_true rfl)
  case c1 => decide
  case m1 => exact fun _ => rfl
  case m2 => exact fun _ => rfl
  case m3 => exact fun _ => rfl
  case m4 => exact fun _ => rfl
  case hI =>
    cases q : Heap.get? _ _ with
    | none => rfl
    | some o => exact absurd (Heap.lt_size q) (Nat.lt_irrefl _)
  case st =>
    have hrs : Builtin.Range.rangeSize 0 (items.size : Int) 1 = (ms.length : Int) := by
      rw [hs]
      have h6 : ms.length ≤ 6 := by (first | lia | omega)
      match ms.length, h6 with
      | 0, _ | 1, _ | 2, _ | 3, _ | 4, _ | 5, _ | 6, _ => rfl
    have z2 : ((ms.length : Int) - ((0 : Nat) : Int)) = (ms.length : Int) := by (first | lia | omega)
    rw [hrs, z2]
    exact Heap.get?_push_size _ rfl
  intro D C h6 tk6 g6 m6 ys k6 kp6 go6 hD0 hC0 hDC hns6 hl6 hys
  refine ⟨m6, hns6, fun h7 hs7 => ?_⟩
  have hC5 := push_none hC0
  have hD5 := push_none hD0
  have kp7 : Kp _ h7 := fun b o e => (hs7.2 b (fun z => by rw [z, hC5] at e; cases e)).trans (kp6 b o e)
  have F7 := F5.keptAll kp7
  have hl7 := (hs7.2 _ hDC).trans hl6
  obtain ⟨k7, N7, hne7⟩ := NewList.news (its := ys.toArray) ⟨hD5, k6, hl7⟩ F5 N5 (News.grown N5 kp7)
  have go6' : GOk s.gens g6 := go6
  clear hs7 F5 N5 hl7 hl6 go6 hD0 hC0 hDC hns6 hC5 hD5
  have hcs : canN (n + 1) H ms = (ys.toArray.size != 0) := by
    have e : ys.isEmpty = !canN (n + 1) H ms := hys
    cases ys with
    | nil => simpa using e
    | cons y r => simpa using e
  rw [hcs] at hret
  k_steps
  rename News _ _ _ _ => N8
  rename Fr _ _ _ _ => F8
  refine Halt.go ?_
  refine' ne_nil (items := ys.toArray) (isList_of_news N8 (.tail _ (.head _))) (isList_of_news N8 (.head _)) ?u ?_
  case u => k_units
  exact hret _ _ _ F8.keep go6'
set_option maxRecDepth 100000 in
set_option maxHeartbeats 8000000 in
theorem can_18 : ∀ (w : World) (mg mb : Str → Option Value) (s : Shared) (Q E : Value → Shared → Prop) (n : Nat) (H : Int) (t : Tok) (l : Addr) (ms : List (Int × Int)),
    (Mine.K2 w.params).In s.heap → TopRead Mine.myView LS mg mb s.heap → CanHyp w mg mb (AA 19) n → ms.length = n + 1 → n ≤ 5 → MovesAt s.heap l ms →
    (∀ (h' : Heap) (tk : Nat) (g' : Array GenState), Kp s.heap h' → GOk s.gens g' → Q (.bool (canN (n + 1) H ms)) { s with heap := h', toks := tk, gens := g' }) →
    wpAny (model PySem.Challenge.rw_om0053_01.prog w) (AA 18) (call (.ref 141) [.int H t, .ref l]) Q E s := by
  k_fill
  intro w mg mb s Q E n H t l ms X T hcan hlen hn5 hmv hret
  obtain ⟨items, hl, hs, hp⟩ := hmv
  have hz : (items.size == 0) = false := by rw [hs, hlen]; rfl
  refine wpAny_call ?_
  k_dflt (refine' call_cellsN (binds := [(Str.ofString "height", .int H t), (Str.ofString "moves", .ref l)]) ?k1 ?k2 ?k3 ?k4 ?k5 ?k6 ?k7 ?k8 ?_ ?c1 ?c2 ?c3; (case k2 => exact X _ _ (by k_is)); (case k3 => exact rfl); (case k1 => decide); (case k4 => exact T.nolimit); (case k5 => exact codeRec_of X (by k_is)); (case k6 => exact rfl); (case k7 => exact kindsX rfl _); (case k8 => decide); (case c1 => exact rfl); (case c2 => exact rfl); (case c3 => exact rfl))
  intro h1 tk1 cells F1 N1 Y1
  k_fold
  obtain ⟨om, oh, rfl, dm, dh⟩ := CellsAre.two (n := Str.ofString "moves") (c := s.heap.objs.size + 2) (n' := Str.ofString "height") (c' := s.heap.objs.size + 1) Y1
  replace dm : om.data = .cell (some (.ref l)) := dm
  replace dh : oh.data = .cell (some (.int H t)) := dh
  clear Y1
  k_steps
  rename Fr _ _ _ _ => F2
  rename News _ _ _ _ => N2
  refine Halt.go ?_
  refine' eq_nil (items := items) (isList_keep hl F2.keep) (isList_of_news N2 (.head _)) ?u ?_
  case u => k_units
  rw [hz]
  k_steps
  refine Halt.go ?_
  rw [eval_ListComp]
  refine' wpAny_comprehension_free (use := none) (cl := [(Str.ofString "moves", s.heap.objs.size + 2), (Str.ofString "height", s.heap.objs.size + 1)]) ?u1 ?u2 ?u3 ?u4 ?u5 ?_
  case u1 => rfl
  case u2 => exact fun _ => rfl
  case u3 => rfl
  case u4 => rfl
  case u5 => decide
  change wpAny _ _ (eval (.Call _ _ _ _) _) _ _ _
  have hl2 := isList_keep hl F2.keep
  k_steps
  rename Fr _ _ _ _ => F5
  rename News _ _ _ _ => N5
  rename IsRange _ _ _ _ _ _ _ _ => hr
  have hsz6 : items.size ≤ 6 := by (first | lia | omega)
  refine Halt.go ?_
  refine' wpAny_pyIter_range hr ?small ?_
  case small =>
    match items.size, hsz6 with
    | 0, _ | 1, _ | 2, _ | 3, _ | 4, _ | 5, _ | 6, _ => rfl
  have nM := N5.get (.tail _ (.head _))
  have nH := N5.get (.tail _ (.tail _ (.head _)))
  have mv5 : MovesAt _ l ms := MovesAt.keep ⟨items, hl, hs, hp⟩ F5.keep
  refine' comp_can (l := l) (cm := s.heap.objs.size + 2) (ch := s.heap.objs.size + 1) (n := n) (H := H) (tH := t) (ms := ms) rfl (X.keeps F5.keep) (T.keeps F5.keep) ?hcan (fun b o e => Heap.get?_push_of_some _ e) ?hI ?st ⟨om, nM, dm⟩ ⟨oh, nH, dh⟩ mv5 hlen (by (first | lia | omega)) ?c1 rfl rfl rfl rfl ?m1 ?m2 ?m3 ?m4 ?_
  case hcan => exact fun s' Q' E' H' t' l' ms' X' T' hl' hm' hr' => AA_mono 19 (hcan s' Q' E' H' t' l' ms' X' T' hl' hm' hr') rfl (Nat.le_of_ble_eq_true rfl) (Nat.le_of_ble_eq_true rfl)
  case c1 => decide
  case m1 => exact fun _ => rfl
  case m2 => exact fun _ => rfl
  case m3 => exact fun _ => rfl
  case m4 => exact fun _ => rfl
  case hI =>
    cases q : Heap.get? _ _ with
    | none => rfl
    | some o => exact absurd (Heap.lt_size q) (Nat.lt_irrefl _)
  case st =>
    have hrs : Builtin.Range.rangeSize 0 (items.size : Int) 1 = (ms.length : Int) := by
      rw [hs]
      have h6 : ms.length ≤ 6 := by (first | lia | omega)
      match ms.length, h6 with
      | 0, _ | 1, _ | 2, _ | 3, _ | 4, _ | 5, _ | 6, _ => rfl
    have z2 : ((ms.length : Int) - ((0 : Nat) : Int)) = (ms.length : Int) := by (first | lia | omega)
    rw [hrs, z2]
    exact Heap.get?_push_size _ rfl
  intro D C h6 tk6 g6 m6 ys k6 kp6 go6 hD0 hC0 hDC hns6 hl6 hys
  refine ⟨m6, hns6, fun h7 hs7 => ?_⟩
  have hC5 := push_none hC0
  have hD5 := push_none hD0
  have kp7 : Kp _ h7 := fun b o e => (hs7.2 b (fun z => by rw [z, hC5] at e; cases e)).trans (kp6 b o e)
  have F7 := F5.keptAll kp7
  have hl7 := (hs7.2 _ hDC).trans hl6
  obtain ⟨k7, N7, hne7⟩ := NewList.news (its := ys.toArray) ⟨hD5, k6, hl7⟩ F5 N5 (News.grown N5 kp7)
  have go6' : GOk s.gens g6 := go6
  clear hs7 F5 N5 hl7 hl6 go6 hD0 hC0 hDC hns6 hC5 hD5
  have hcs : canN (n + 1) H ms = (ys.toArray.size != 0) := by
    have e : ys.isEmpty = !canN (n + 1) H ms := hys
    cases ys with
    | nil => simpa using e
    | cons y r => simpa using e
  rw [hcs] at hret
  k_steps
  rename News _ _ _ _ => N8
  rename Fr _ _ _ _ => F8
  refine Halt.go ?_
  refine' ne_nil (items := ys.toArray) (isList_of_news N8 (.tail _ (.head _))) (isList_of_news N8 (.head _)) ?u ?_
  case u => k_units
  exact hret _ _ _ F8.keep go6'
set_option maxRecDepth 100000 in
set_option maxHeartbeats 8000000 in
theorem can_17 : ∀ (w : World) (mg mb : Str → Option Value) (s : Shared) (Q E : Value → Shared → Prop) (n : Nat) (H : Int) (t : Tok) (l : Addr) (ms : List (Int × Int)),
    (Mine.K2 w.params).In s.heap → TopRead Mine.myView LS mg mb s.heap → CanHyp w mg mb (AA 18) n → ms.length = n + 1 → n ≤ 5 → MovesAt s.heap l ms →
    (∀ (h' : Heap) (tk : Nat) (g' : Array GenState), Kp s.heap h' → GOk s.gens g' → Q (.bool (canN (n + 1) H ms)) { s with heap := h', toks := tk, gens := g' }) →
    wpAny (model PySem.Challenge.rw_om0053_01.prog w) (AA 17) (call (.ref 141) [.int H t, .ref l]) Q E s := by
  k_fill
  intro w mg mb s Q E n H t l ms X T hcan hlen hn5 hmv hret
  obtain ⟨items, hl, hs, hp⟩ := hmv
  have hz : (items.size == 0) = false := by rw [hs, hlen]; rfl
  refine wpAny_call ?_
  k_dflt (refine' call_cellsN (binds := [(Str.ofString "height", .int H t), (Str.ofString "moves", .ref l)]) ?k1 ?k2 ?k3 ?k4 ?k5 ?k6 ?k7 ?k8 ?_ ?c1 ?c2 ?c3; (case k2 => exact X _ _ (by k_is)); (case k3 => exact rfl); (case k1 => decide); (case k4 => exact T.nolimit); (case k5 => exact codeRec_of X (by k_is)); (case k6 => exact rfl); (case k7 => exact kindsX rfl _); (case k8 => decide); (case c1 => exact rfl); (case c2 => exact rfl); (case c3 => exact rfl))
  intro h1 tk1 cells F1 N1 Y1
  k_fold
  obtain ⟨om, oh, rfl, dm, dh⟩ := CellsAre.two (n := Str.ofString "moves") (c := s.heap.objs.size + 2) (n' := Str.ofString "height") (c' := s.heap.objs.size + 1) Y1
  replace dm : om.data = .cell (some (.ref l)) := dm
  replace dh : oh.data = .cell (some (.int H t)) := dh
  clear Y1
  k_steps
  rename Fr _ _ _ _ => F2
  rename News _ _ _ _ => N2
  refine Halt.go ?_
  refine' eq_nil (items := items) (isList_keep hl F2.keep) (isList_of_news N2 (.head _)) ?u ?_
  case u => k_units
  rw [hz]
  k_steps
  refine Halt.go ?_
  rw [eval_ListComp]
  refine' wpAny_comprehension_free (use := none) (cl := [(Str.ofString "moves", s.heap.objs.size + 2), (Str.ofString "height", s.heap.objs.size + 1)]) ?u1 ?u2 ?u3 ?u4 ?u5 ?_
  case u1 => rfl
  case u2 => exact fun _ => rfl
  case u3 => rfl
  case u4 => rfl
  case u5 => decide
  change wpAny _ _ (eval (.Call _ _ _ _) _) _ _ _
  have hl2 := isList_keep hl F2.keep
  k_steps
  rename Fr _ _ _ _ => F5
  rename News _ _ _ _ => N5
  rename IsRange _ _ _ _ _ _ _ _ => hr
  have hsz6 : items.size ≤ 6 := by (first | lia | omega)
  refine Halt.go ?_
  refine' wpAny_pyIter_range hr ?small ?_
  case small =>
    match items.size, hsz6 with
    | 0, _ | 1, _ | 2, _ | 3, _ | 4, _ | 5, _ | 6, _ => rfl
  have nM := N5.get (.tail _ (.head _))
  have nH := N5.get (.tail _ (.tail _ (.head _)))
  have mv5 : MovesAt _ l ms := MovesAt.keep ⟨items, hl, hs, hp⟩ F5.keep
  refine' comp_can (l := l) (cm := s.heap.objs.size + 2) (ch := s.heap.objs.size + 1) (n := n) (H := H) (tH := t) (ms := ms) rfl (X.keeps F5.keep) (T.keeps F5.keep) ?hcan (fun b o e => Heap.get?_push_of_some _ e) ?hI ?st ⟨om, nM, dm⟩ ⟨oh, nH, dh⟩ mv5 hlen (by (first | lia | omega)) ?c1 rfl rfl rfl rfl ?m1 ?m2 ?m3 ?m4 ?_
  case hcan => exact fun s' Q' E' H' t' l' ms' X' T' hl' hm' hr' => AA_mono 18 (hcan s' Q' E' H' t' l' ms' X' T' hl' hm' hr') rfl (Nat.le_of_ble_eq_true rfl) (Nat.le_of_ble_eq_true rfl)
  case c1 => decide
  case m1 => exact fun _ => rfl
  case m2 => exact fun _ => rfl
  case m3 => exact fun _ => rfl
  case m4 => exact fun _ => rfl
  case hI =>
    cases q : Heap.get? _ _ with
    | none => rfl
    | some o => exact absurd (Heap.lt_size q) (Nat.lt_irrefl _)
  case st =>
    have hrs : Builtin.Range.rangeSize 0 (items.size : Int) 1 = (ms.length : Int) := by
      rw [hs]
      have h6 : ms.length ≤ 6 := by (first | lia | omega)
      match ms.length, h6 with
      | 0, _ | 1, _ | 2, _ | 3, _ | 4, _ | 5, _ | 6, _ => rfl
    have z2 : ((ms.length : Int) - ((0 : Nat) : Int)) = (ms.length : Int) := by (first | lia | omega)
    rw [hrs, z2]
    exact Heap.get?_push_size _ rfl
  intro D C h6 tk6 g6 m6 ys k6 kp6 go6 hD0 hC0 hDC hns6 hl6 hys
  refine ⟨m6, hns6, fun h7 hs7 => ?_⟩
  have hC5 := push_none hC0
  have hD5 := push_none hD0
  have kp7 : Kp _ h7 := fun b o e => (hs7.2 b (fun z => by rw [z, hC5] at e; cases e)).trans (kp6 b o e)
  have F7 := F5.keptAll kp7
  have hl7 := (hs7.2 _ hDC).trans hl6
  obtain ⟨k7, N7, hne7⟩ := NewList.news (its := ys.toArray) ⟨hD5, k6, hl7⟩ F5 N5 (News.grown N5 kp7)
  have go6' : GOk s.gens g6 := go6
  clear hs7 F5 N5 hl7 hl6 go6 hD0 hC0 hDC hns6 hC5 hD5
  have hcs : canN (n + 1) H ms = (ys.toArray.size != 0) := by
    have e : ys.isEmpty = !canN (n + 1) H ms := hys
    cases ys with
    | nil => simpa using e
    | cons y r => simpa using e
  rw [hcs] at hret
  k_steps
  rename News _ _ _ _ => N8
  rename Fr _ _ _ _ => F8
  refine Halt.go ?_
  refine' ne_nil (items := ys.toArray) (isList_of_news N8 (.tail _ (.head _))) (isList_of_news N8 (.head _)) ?u ?_
  case u => k_units
  exact hret _ _ _ F8.keep go6'
set_option maxRecDepth 100000 in
set_option maxHeartbeats 8000000 in
theorem can_16 : ∀ (w : World) (mg mb : Str → Option Value) (s : Shared) (Q E : Value → Shared → Prop) (n : Nat) (H : Int) (t : Tok) (l : Addr) (ms : List (Int × Int)),
    (Mine.K2 w.params).In s.heap → TopRead Mine.myView LS mg mb s.heap → CanHyp w mg mb (AA 17) n → ms.length = n + 1 → n ≤ 5 → MovesAt s.heap l ms →
    (∀ (h' : Heap) (tk : Nat) (g' : Array GenState), Kp s.heap h' → GOk s.gens g' → Q (.bool (canN (n + 1) H ms)) { s with heap := h', toks := tk, gens := g' }) →
    wpAny (model PySem.Challenge.rw_om0053_01.prog w) (AA 16) (call (.ref 141) [.int H t, .ref l]) Q E s := by
  k_fill
  intro w mg mb s Q E n H t l ms X T hcan hlen hn5 hmv hret
  obtain ⟨items, hl, hs, hp⟩ := hmv
  have hz : (items.size == 0) = false := by rw [hs, hlen]; rfl
  refine wpAny_call ?_
  k_dflt (refine' call_cellsN (binds := [(Str.ofString "height", .int H t), (Str.ofString "moves", .ref l)]) ?k1 ?k2 ?k3 ?k4 ?k5 ?k6 ?k7 ?k8 ?_ ?c1 ?c2 ?c3; (case k2 => exact X _ _ (by k_is)); (case k3 => exact rfl); (case k1 => decide); (case k4 => exact T.nolimit); (case k5 => exact codeRec_of X (by k_is)); (case k6 => exact rfl); (case k7 => exact kindsX rfl _); (case k8 => decide); (case c1 => exact rfl); (case c2 => exact rfl); (case c3 => exact rfl))
  intro h1 tk1 cells F1 N1 Y1
  k_fold
  obtain ⟨om, oh, rfl, dm, dh⟩ := CellsAre.two (n := Str.ofString "moves") (c := s.heap.objs.size + 2) (n' := Str.ofString "height") (c' := s.heap.objs.size + 1) Y1
  replace dm : om.data = .cell (some (.ref l)) := dm
  replace dh : oh.data = .cell (some (.int H t)) := dh
  clear Y1
  k_steps
  rename Fr _ _ _ _ => F2
  rename News _ _ _ _ => N2
  refine Halt.go ?_
  refine' eq_nil (items := items) (isList_keep hl F2.keep) (isList_of_news N2 (.head _)) ?u ?_
  case u => k_units
  rw [hz]
  k_steps
  refine Halt.go ?_
  rw [eval_ListComp]
  refine' wpAny_comprehension_free (use := none) (cl := [(Str.ofString "moves", s.heap.objs.size + 2), (Str.ofString "height", s.heap.objs.size + 1)]) ?u1 ?u2 ?u3 ?u4 ?u5 ?_
  case u1 => rfl
  case u2 => exact fun _ => rfl
  case u3 => rfl
  case u4 => rfl
  case u5 => decide
  change wpAny _ _ (eval (.Call _ _ _ _) _) _ _ _
  have hl2 := isList_keep hl F2.keep
  k_steps
  rename Fr _ _ _ _ => F5
  rename News _ _ _ _ => N5
  rename IsRange _ _ _ _ _ _ _ _ => hr
  have hsz6 : items.size ≤ 6 := by (first | lia | omega)
  refine Halt.go ?_
  refine' wpAny_pyIter_range hr ?small ?_
  case small =>
    match items.size, hsz6 with
    | 0, _ | 1, _ | 2, _ | 3, _ | 4, _ | 5, _ | 6, _ => rfl
  have nM := N5.get (.tail _ (.head _))
  have nH := N5.get (.tail _ (.tail _ (.head _)))
  have mv5 : MovesAt _ l ms := MovesAt.keep ⟨items, hl, hs, hp⟩ F5.keep
  refine' comp_can (l := l) (cm := s.heap.objs.size + 2) (ch := s.heap.objs.size + 1) (n := n) (H := H) (tH := t) (ms := ms) rfl (X.keeps F5.keep) (T.keeps F5.keep) ?hcan (fun b o e => Heap.get?_push_of_some _ e) ?hI ?st ⟨om, nM, dm⟩ ⟨oh, nH, dh⟩ mv5 hlen (by (first | lia | omega)) ?c1 rfl rfl rfl rfl ?m1 ?m2 ?m3 ?m4 ?_
  case hcan => exact fun s' Q' E' H' t' l' ms' X' T' hl' hm' hr' => AA_mono 17 (hcan s' Q' E' H' t' l' ms' X' T' hl' hm' hr') rfl (Nat.le_of_ble_eq_true rfl) (Nat.le_of_ble_eq_true rfl)
  case c1 => decide
  case m1 => exact fun _ => rfl
  case m2 => exact fun _ => rfl
  case m3 => exact fun _ => rfl
  case m4 => exact fun _ => rfl
  case hI =>
    cases q : Heap.get? _ _ with
    | none => rfl
    | some o => exact absurd (Heap.lt_size q) (Nat.lt_irrefl _)
  case st =>
    have hrs : Builtin.Range.rangeSize 0 (items.size : Int) 1 = (ms.length : Int) := by
      rw [hs]
      have h6 : ms.length ≤ 6 := by (first | lia | omega)
      match ms.length, h6 with
      | 0, _ | 1, _ | 2, _ | 3, _ | 4, _ | 5, _ | 6, _ => rfl
    have z2 : ((ms.length : Int) - ((0 : Nat) : Int)) = (ms.length : Int) := by (first | lia | omega)
    rw [hrs, z2]
    exact Heap.get?_push_size _ rfl
  intro D C h6 tk6 g6 m6 ys k6 kp6 go6 hD0 hC0 hDC hns6 hl6 hys
  refine ⟨m6, hns6, fun h7 hs7 => ?_⟩
  have hC5 := push_none hC0
  have hD5 := push_none hD0
  have kp7 : Kp _ h7 := fun b o e => (hs7.2 b (fun z => by rw [z, hC5] at e; cases e)).trans (kp6 b o e)
  have F7 := F5.keptAll kp7
  have hl7 := (hs7.2 _ hDC).trans hl6
  obtain ⟨k7, N7, hne7⟩ := NewList.news (its := ys.toArray) ⟨hD5, k6, hl7⟩ F5 N5 (News.grown N5 kp7)
  have go6' : GOk s.gens g6 := go6
  clear hs7 F5 N5 hl7 hl6 go6 hD0 hC0 hDC hns6 hC5 hD5
  have hcs : canN (n + 1) H ms = (ys.toArray.size != 0) := by
    have e : ys.isEmpty = !canN (n + 1) H ms := hys
    cases ys with
    | nil => simpa using e
    | cons y r => simpa using e
  rw [hcs] at hret
  k_steps
  rename News _ _ _ _ => N8
  rename Fr _ _ _ _ => F8
  refine Halt.go ?_
  refine' ne_nil (items := ys.toArray) (isList_of_news N8 (.tail _ (.head _))) (isList_of_news N8 (.head _)) ?u ?_
  case u => k_units
  exact hret _ _ _ F8.keep go6'
set_option maxRecDepth 100000 in
set_option maxHeartbeats 8000000 in
theorem can_15 : ∀ (w : World) (mg mb : Str → Option Value) (s : Shared) (Q E : Value → Shared → Prop) (n : Nat) (H : Int) (t : Tok) (l : Addr) (ms : List (Int × Int)),
    (Mine.K2 w.params).In s.heap → TopRead Mine.myView LS mg mb s.heap → CanHyp w mg mb (AA 16) n → ms.length = n + 1 → n ≤ 5 → MovesAt s.heap l ms →
    (∀ (h' : Heap) (tk : Nat) (g' : Array GenState), Kp s.heap h' → GOk s.gens g' → Q (.bool (canN (n + 1) H ms)) { s with heap := h', toks := tk, gens := g' }) →
    wpAny (model PySem.Challenge.rw_om0053_01.prog w) (AA 15) (call (.ref 141) [.int H t, .ref l]) Q E s := by
  k_fill
  intro w mg mb s Q E n H t l ms X T hcan hlen hn5 hmv hret
  obtain ⟨items, hl, hs, hp⟩ := hmv
  have hz : (items.size == 0) = false := by rw [hs, hlen]; rfl
  refine wpAny_call ?_
  k_dflt (refine' call_cellsN (binds := [(Str.ofString "height", .int H t), (Str.ofString "moves", .ref l)]) ?k1 ?k2 ?k3 ?k4 ?k5 ?k6 ?k7 ?k8 ?_ ?c1 ?c2 ?c3; (case k2 => exact X _ _ (by k_is)); (case k3 => exact rfl); (case k1 => decide); (case k4 => exact T.nolimit); (case k5 => exact codeRec_of X (by k_is)); (case k6 => exact rfl); (case k7 => exact kindsX rfl _); (case k8 => decide); (case c1 => exact rfl); (case c2 => exact rfl); (case c3 => exact rfl))
  intro h1 tk1 cells F1 N1 Y1
  k_fold
  obtain ⟨om, oh, rfl, dm, dh⟩ := CellsAre.two (n := Str.ofString "moves") (c := s.heap.objs.size + 2) (n' := Str.ofString "height") (c' := s.heap.objs.size + 1) Y1
  replace dm : om.data = .cell (some (.ref l)) := dm
  replace dh : oh.data = .cell (some (.int H t)) := dh
  clear Y1
  k_steps
  rename Fr _ _ _ _ => F2
  rename News _ _ _ _ => N2
  refine Halt.go ?_
  refine' eq_nil (items := items) (isList_keep hl F2.keep) (isList_of_news N2 (.head _)) ?u ?_
  case u => k_units
  rw [hz]
  k_steps
  refine Halt.go ?_
  rw [eval_ListComp]
  refine' wpAny_comprehension_free (use := none) (cl := [(Str.ofString "moves", s.heap.objs.size + 2), (Str.ofString "height", s.heap.objs.size + 1)]) ?u1 ?u2 ?u3 ?u4 ?u5 ?_
  case u1 => rfl
  case u2 => exact fun _ => rfl
  case u3 => rfl
  case u4 => rfl
  case u5 => decide
  change wpAny _ _ (eval (.Call _ _ _ _) _) _ _ _
  have hl2 := isList_keep hl F2.keep
  k_steps
  rename Fr _ _ _ _ => F5
  rename News _ _ _ _ => N5
  rename IsRange _ _ _ _ _ _ _ _ => hr
  have hsz6 : items.size ≤ 6 := by (first | lia | omega)
  refine Halt.go ?_
  refine' wpAny_pyIter_range hr ?small ?_
  case small =>
    match items.size, hsz6 with
    | 0, _ | 1, _ | 2, _ | 3, _ | 4, _ | 5, _ | 6, _ => rfl
  have nM := N5.get (.tail _ (.head _))
  have nH := N5.get (.tail _ (.tail _ (.head _)))
  have mv5 : MovesAt _ l ms := MovesAt.keep ⟨items, hl, hs, hp⟩ F5.keep
  refine' comp_can (l := l) (cm := s.heap.objs.size + 2) (ch := s.heap.objs.size + 1) (n := n) (H := H) (tH := t) (ms := ms) rfl (X.keeps F5.keep) (T.keeps F5.keep) ?hcan (fun b o e => Heap.get?_push_of_some _ e) ?hI ?st ⟨om, nM, dm⟩ ⟨oh, nH, dh⟩ mv5 hlen (by (first | lia | omega)) ?c1 rfl rfl rfl rfl ?m1 ?m2 ?m3 ?m4 ?_
  case hcan => exact fun s' Q' E' H' t' l' ms' X' T' hl' hm' hr' => AA_mono 16 (hcan s' Q' E' H' t' l' ms' X' T' hl' hm' hr') rfl (Nat.le_of_ble_eq_true rfl) (Nat.le_of_ble_eq_true rfl)
  case c1 => decide
  case m1 => exact fun _ => rfl
  case m2 => exact fun _ => rfl
  case m3 => exact fun _ => rfl
  case m4 => exact fun _ => rfl
  case hI =>
    cases q : Heap.get? _ _ with
    | none => rfl
    | some o => exact absurd (Heap.lt_size q) (Nat.lt_irrefl _)
  case st =>
    have hrs : Builtin.Range.rangeSize 0 (items.size : Int) 1 = (ms.length : Int) := by
      rw [hs]
      have h6 : ms.length ≤ 6 := by (first | lia | omega)
      match ms.length, h6 with
      | 0, _ | 1, _ | 2, _ | 3, _ | 4, _ | 5, _ | 6, _ => rfl
    have z2 : ((ms.length : Int) - ((0 : Nat) : Int)) = (ms.length : Int) := by (first | lia | omega)
    rw [hrs, z2]
    exact Heap.get?_push_size _ rfl
  intro D C h6 tk6 g6 m6 ys k6 kp6 go6 hD0 hC0 hDC hns6 hl6 hys
  refine ⟨m6, hns6, fun h7 hs7 => ?_⟩
  have hC5 := push_none hC0
  have hD5 := push_none hD0
  have kp7 : Kp _ h7 := fun b o e => (hs7.2 b (fun z => by rw [z, hC5] at e; cases e)).trans (kp6 b o e)
  have F7 := F5.keptAll kp7
  have hl7 := (hs7.2 _ hDC).trans hl6
  obtain ⟨k7, N7, hne7⟩ := NewList.news (its := ys.toArray) ⟨hD5, k6, hl7⟩ F5 N5 (News.grown N5 kp7)
  have go6' : GOk s.gens g6 := go6
  clear hs7 F5 N5 hl7 hl6 go6 hD0 hC0 hDC hns6 hC5 hD5
  have hcs : canN (n + 1) H ms = (ys.toArray.size != 0) := by
    have e : ys.isEmpty = !canN (n + 1) H ms := hys
    cases ys with
    | nil => simpa using e
    | cons y r => simpa using e
  rw [hcs] at hret
  k_steps
  rename News _ _ _ _ => N8
  rename Fr _ _ _ _ => F8
  refine Halt.go ?_
  refine' ne_nil (items := ys.toArray) (isList_of_news N8 (.tail _ (.head _))) (isList_of_news N8 (.head _)) ?u ?_
  case u => k_units
  exact hret _ _ _ F8.keep go6'
theorem can_all (w : World) (mg mb : Str → Option Value) (n : Nat) (hn : n ≤ 5) : CanHyp w mg mb (AA 15) n := by
  have low : ∀ j k n, k ≤ j → CanHyp w mg mb (AA j) n → CanHyp w mg mb (AA k) n := fun j k n h H => fun s Q E a t l ms X T hl hm hr => AA_mono j (H s Q E a t l ms X T hl hm hr) rfl (by show 400 + 20 * k ≤ _; (first | lia | omega)) (by show 500 + 300 * k ≤ _; (first | lia | omega))
  have h0 : CanHyp w mg mb (AA 20) 0 := fun s Q E a t l ms X T hl hm hr => can_zero w mg mb s Q E a t l ms X T hl hm hr
  have h1 : CanHyp w mg mb (AA 19) 1 := fun s Q E a t l ms X T hl hm hr => can_19 w mg mb s Q E 0 a t l ms X T h0 hl (by (first | lia | omega)) hm hr
  have h2 : CanHyp w mg mb (AA 18) 2 := fun s Q E a t l ms X T hl hm hr => can_18 w mg mb s Q E 1 a t l ms X T h1 hl (by (first | lia | omega)) hm hr
  have h3 : CanHyp w mg mb (AA 17) 3 := fun s Q E a t l ms X T hl hm hr => can_17 w mg mb s Q E 2 a t l ms X T h2 hl (by (first | lia | omega)) hm hr
  have h4 : CanHyp w mg mb (AA 16) 4 := fun s Q E a t l ms X T hl hm hr => can_16 w mg mb s Q E 3 a t l ms X T h3 hl (by (first | lia | omega)) hm hr
  have h5 : CanHyp w mg mb (AA 15) 5 := fun s Q E a t l ms X T hl hm hr => can_15 w mg mb s Q E 4 a t l ms X T h4 hl (by (first | lia | omega)) hm hr
  have : n = 0 ∨ n = 1 ∨ n = 2 ∨ n = 3 ∨ n = 4 ∨ n = 5 := by (first | lia | omega)
  rcases this with rfl | rfl | rfl | rfl | rfl | rfl
  · exact low _ _ _ (by decide) h0
  · exact low _ _ _ (by decide) h1
  · exact low _ _ _ (by decide) h2
  · exact low _ _ _ (by decide) h3
  · exact low _ _ _ (by decide) h4
  · exact h5
end Mine

end
end
section
open PySem PySem.W PySem.Calls PyProof.Rows
set_option Elab.async false
set_option linter.unusedVariables false
namespace Mine
open PySem.W.X
/-- what stood off X stands -/
noncomputable def Up (X : Addr → Prop) (h h' : Heap) : Prop := ∀ b o, ¬ X b → h.get? b = some o → h'.get? b = some o
/-- what holds however X changes -/
noncomputable def Kept (X : Addr → Prop) (h : Heap) (φ : Heap → Prop) : Prop := ∀ h', Up X h h' → φ h'
section
variable {X : Addr → Prop} {h h' h₀ h₁ : Heap} {φ ψ : Heap → Prop}
theorem Up.refl (h : Heap) : Up X h h := fun _ _ _ e => e
theorem Up.of_kp (k : Kp h h') : Up X h h' := fun b o _ e => k b o e
theorem Up.trans {h'' : Heap} (x : Up X h h') (y : Up X h' h'') : Up X h h'' := fun b o hb e => y b o hb (x b o hb e)
theorem Kept.here (x : Kept X h φ) : φ h := x h fun _ _ _ e => e
theorem Kept.up (x : Kept X h φ) (u : Up X h h') : Kept X h' φ := fun h'' u' => x h'' (u.trans u')
theorem Kept.kp (x : Kept X h φ) (u : Kp h h') : Kept X h' φ := x.up (.of_kp u)
theorem Kept.imp (x : Kept X h φ) (f : ∀ h, φ h → ψ h) : Kept X h ψ := fun h' u => f _ (x h' u)
theorem Kept.and (x : Kept X h φ) (y : Kept X h ψ) : Kept X h (fun h => φ h ∧ ψ h) := fun h' u => ⟨x h' u, y h' u⟩
theorem Kept.of (x : ∀ h, φ h) : Kept X h φ := fun h' _ => x h'
theorem Kept.obj {a : Addr} {o : Obj} (n : ¬ X a) (e : h.get? a = some o) : Kept X h (fun h => h.get? a = some o) := fun h' u => u a o n e
theorem Kept.list {a : Addr} {its : Array Value} (n : ¬ X a) (e : h.IsList a its) : Kept X h (fun h => h.IsList a its) := fun h' u => let ⟨o, e, r⟩ := e; ⟨o, u a o n e, r⟩
/-- what speaks of objects that are new since h₁ -/
noncomputable def Fresh (h₁ h : Heap) (φ : Heap → Prop) : Prop := ∀ X : Addr → Prop, (∀ b, X b → h₁.get? b ≠ none) → Kept X h φ
theorem Fresh.of (x : ∀ h, φ h) : Fresh h₁ h φ := fun _ _ => .of x
theorem Fresh.kp (x : Fresh h₁ h φ) (u : Kp h h') : Fresh h₁ h' φ := fun X hX => (x X hX).kp u
theorem Fresh.imp (x : Fresh h₁ h φ) (f : ∀ h, φ h → ψ h) : Fresh h₁ h ψ := fun X hX => (x X hX).imp f
theorem Fresh.and (x : Fresh h₁ h φ) (y : Fresh h₁ h ψ) : Fresh h₁ h (fun h => φ h ∧ ψ h) := fun X hX => (x X hX).and (y X hX)
theorem Fresh.obj {a : Addr} {o : Obj} (n : h₁.get? a = none) (e : h.get? a = some o) : Fresh h₁ h (fun h => h.get? a = some o) := fun X hX => .obj (fun z => hX _ z n) e
theorem Fresh.list {a : Addr} {its : Array Value} (n : h₁.get? a = none) (e : h.IsList a its) : Fresh h₁ h (fun h => h.IsList a its) := fun X hX => .list (fun z => hX _ z n) e
theorem Fresh.mono (x : Fresh h₁ h φ) (k : Kp h₀ h₁) : Fresh h₀ h φ := fun X hX => x X fun b hb z => by
  cases e : h₀.get? b with
  | none => exact hX b hb e
  | some o => rw [k _ _ e] at z; cases z
theorem none_of (k : Kp h h') {b : Addr} (z : h'.get? b = none) : h.get? b = none := by
  cases e : h.get? b with
  | none => rfl
  | some o => rw [k _ _ e] at z; cases z
end
section
variable {prog : Program} {w : World} {A : Around} {E : Value → Shared → Prop} {s : Shared} {env : Env}
theorem unpack_two {l : Addr} {v1 v2 : Value} {Q : List Value → Shared → Prop} (hh : A.handled = none) (hl : s.heap.IsList l #[v1, v2])
    (hQ : ∀ h', Kp s.heap h' → Q [v1, v2] { s with heap := h' }) : wpAny (model prog w) A (unpackItems (.ref l) 2 none) Q E s := by
  have hne : l ≠ s.heap.objs.size := by obtain ⟨o, ho, _⟩ := hl; exact Nat.ne_of_lt (Heap.lt_size ho)
  have kp0 : ∀ (o : Obj), Kp s.heap (s.heap.push o) := fun o b x e => Heap.get?_push_of_some _ e
  unfold unpackItems
  refine wpAny_bind ?_
  unfold notIterableAtAll
  refine wpAny_bind (wpAny_specialOf hl.typeIs slot_list_iter.lookup ?_)
  refine wpAny_pure ?_
  simp only [Bool.false_eq_true, if_false]
  refine wpAny_bind (wpAny_holding (wpAny_pyIter_list hl ?_))
  refine wpAny_bind (wpAny_holding ?_)
  unfold draw
  refine wpAny_bind (wpAny_pyNext_list_item (i := 0) (x := v1) ⟨_, Heap.get?_push_size _ rfl, rfl, rfl⟩ (isList_keep hl (kp0 _)) rfl fun h1 hit1 hs1 => ?_)
  have l1 : h1.IsList l #[v1, v2] := let ⟨o, e, r⟩ := isList_keep hl (kp0 _); ⟨o, (hs1.2 l hne).trans e, r⟩
  refine wpAny_bind (wpAny_holding ?_)
  unfold draw
  refine wpAny_bind (wpAny_pyNext_list_item (i := 1) (x := v2) hit1 l1 rfl fun h2 hit2 hs2 => ?_)
  have hs2' : Heap.SameBut s.heap.objs.size h1 h2 := hs2
  have l2 : h2.IsList l #[v1, v2] := let ⟨o, e, r⟩ := l1; ⟨o, (hs2'.2 l hne).trans e, r⟩
  refine wpAny_bind (wpAny_holding ?_)
  unfold draw
  refine wpAny_pure (wpAny_pure (wpAny_pure ?_))
  rw [if_neg (by simp)]
  refine wpAny_bind (wpAny_holding (wpAny_pyNext_list_end hh hit2 l2 rfl fun h3 hs3 => ?_))
  simp only [Option.isSome_none, Bool.false_eq_true, if_false]
  refine wpAny_pure (hQ h3 fun b o e => ?_)
  have hb : b ≠ s.heap.objs.size := Nat.ne_of_lt (Heap.lt_size e)
  exact hs3 b o hb ((hs2'.2 b hb).trans ((hs1.2 b hb).trans (kp0 _ _ _ e)))
theorem assign_two {m : Str → Option Value} {xi xv : Str} {pi pv pt : Pos} {x1 : Nat} {v1 v2 : Value} {T : Addr} {Q : Unit → Shared → Prop} (hh : A.handled = none) (hn : s.heap.Ns env.locals m) (ht : s.heap.IsList T #[v1, v2])
    (hxi : env.kindOf xi = some .local) (hxv : env.kindOf xv = some .local) (hp : (env.scope.kind == .class || (env.scope.kind == .module && env.locals != env.globals)) = false)
    (h : ∀ h' tk, h'.Ns env.locals (fun y => if y = xv then some v2 else if y = xi then some v1 else m y) → (∀ b o, b ≠ env.locals → s.heap.get? b = some o → h'.get? b = some o) → Q () { s with heap := h', toks := tk }) :
    wpAny (model prog w) A (assign (.Tuple [.Name xi pi, .Name xv pv] x1 pt) env (.ref T)) Q E s := by
  rw [arm_assign_Tuple]
  refine wpAny_bind (wpAny_standAt ?_)
  unfold unpack
  refine wpAny_bind (wpAny_holding ?_)
  refine unpack_two hh ht fun h₃ k₃ => ?_
  show wpAny _ A (do holding [v2] (assign (.Name xi pi) env v1); do holding [] (assign (.Name xv pv) env v2); pure ()) _ _ _
  refine wpAny_bind (wpAny_holding (wpAny_assign_Name (wpAny_storeName_local hxi (hn.keeps k₃) (fun h₄ hn₄ hs₄ => ?_) hp)))
  refine wpAny_bind (wpAny_holding (wpAny_assign_Name (wpAny_storeName_local hxv hn₄ (fun h₅ hn₅ hs₅ => wpAny_pure ?_) hp)))
  exact h _ _ hn₅ fun b o hb e => hs₅.extBut b o hb (hs₄.extBut b o hb (k₃ b o e))
theorem letGo_list {target : Expr} {I l : Addr} {i : Nat} {v : Value} {Q : Unit → Shared → Prop} (hit : s.heap.IsListIter I l i) (h : Q () s) : wpAny (model prog w) A (letOwnedTupleGo target (.ref I) v) Q E s := by
  obtain ⟨o, ho, hc, hd⟩ := hit
  unfold letOwnedTupleGo
  have key : ∀ v : Value, wpAny (model prog w) A (match (Value.ref I, v) with
    | (.ref r, .ref a) => (do
      let o ← load r
      match o.cls, o.data with
      | .type n, .fields vs =>
        if ["enumerate", "zip", "dict_itemiterator", "dict_reverseitemiterator", "odict_iterator", "itertools.zip_longest", "itertools.pairwise"].contains n && vs[0]? == some (rawInt a) then do
          rule "for.unpacks-the-owned-tuple"
          updateField r 0 .none
        else pure ()
      | _, _ => pure ())
    | _ => pure ()) Q E s := fun v => by
    split
    · rename_i r a e
      cases e
      refine wpAny_bind (wpAny_load ho ?_)
      rw [hc, hd]
      exact wpAny_ite_false rfl (wpAny_pure h)
    · exact wpAny_pure h
  split
  · exact key v
  · exact key v
  · exact wpAny_pure h
/-- a list made by a comprehension -/
noncomputable def Made (D : Addr) (n : Nat) (P : Nat → Value → Heap → Prop) (h : Heap) : Prop := ∃ (ys : List Value) (k : Nat), h.get? D = some (W.listOf ys.toArray k) ∧ ys.length = n ∧ ∀ (i : Nat) (y : Value), ys[i]? = some y → P i y h
noncomputable def AccM (h₁ : Heap) (P : Nat → Value → Heap → Prop) (Y : Addr → Prop) (i : Nat) (ys : List Value) (h : Heap) : Prop :=
  ys.length = i ∧ ∀ X : Addr → Prop, (∀ b, X b → h₁.get? b ≠ none ∨ Y b) → ∀ (j : Nat) (y : Value), ys[j]? = some y → Kept X h (P j y)
theorem AccM.up {h₁ : Heap} {P : Nat → Value → Heap → Prop} {Y : Addr → Prop} {i : Nat} {ys : List Value} {h h' : Heap} (u : ∀ b o, ¬ Y b → h.get? b = some o → h'.get? b = some o) (x : AccM h₁ P Y i ys h) : AccM h₁ P Y i ys h' := by
  refine ⟨x.1, fun X hX j y e h'' u' => ?_⟩
  refine x.2 (fun b => X b ∨ Y b) (fun b hb => hb.elim (hX b) .inr) j y e h'' fun b o hb e => u' b o (fun z => hb (.inl z)) (u b o (fun z => hb (.inr z)) e)
set_option maxHeartbeats 1000000 in
theorem comp_walk {elt target iter : Expr} {scope : Scope} {cl : List (Str × Addr)} {pos : Pos} {h₁ : Heap} {s₂ : Shared} {I : Addr} {fp : List Addr} {n : Nat} {Pv : Nat → Value → Prop} {St : Nat → Heap → Prop}
    {RR : Value → Addr → Result → Shared → Prop} (Wk : Walks prog w A I fp [I] n Pv St) (hsz : n ≤ 1000) (hIo : ∀ i h, St i h → ∃ o, h.get? I = some o)
    (hcell : ∀ y ∈ scope.names, y.2 ≠ .cell) (hkind : scope.kind = .function) (hst : St 0 s₂.heap) (hfp : ∀ b ∈ fp, b < s₂.heap.objs.size)
    (hgo : ∀ i (s' : Shared) v (Q' : Unit → Shared → Prop) E', St i s'.heap → Q' () s' → wpAny (model prog w) A (letOwnedTupleGo target (.ref I) v) Q' E' s')
    (k1 : Kp h₁ s₂.heap) (hI : h₁.get? I = none) (P : Nat → Value → Heap → Prop)
    (turn : ∀ C i v m (s₃ : Shared) (Q' : Value → Shared → Prop) E', i < n → Pv i v → (∃ h tk g, s₃ = { s₂ with heap := h, toks := tk, gens := g } ∧ GOk s₂.gens g) → Kp h₁ s₃.heap → h₁.get? C = none → s₃.heap.Ns C m →
      (∀ y h tk g m', GOk s₃.gens g → (∀ b o, b ≠ C → s₃.heap.get? b = some o → h.get? b = some o) → h.Ns C m' → Fresh s₃.heap h (P i y) → Q' y { s₃ with heap := h, toks := tk, gens := g }) →
      wpAny (model prog w) A (assign target (compEnvC scope cl C env) v) (fun _ s₄ => wpAny (model prog w) A (eval elt (compEnvC scope cl C env)) Q' E' s₄) E' s₃)
    (fin : ∀ D C h tk g m, Kp h₁ h → GOk s₂.gens g → h₁.get? D = none → h₁.get? C = none → h.Ns C m → (∀ X : Addr → Prop, (∀ b, X b → h₁.get? b ≠ none ∨ b = C) → Kept X h (Made D n P)) →
      RR (.ref D) C (.ok .next) { s₂ with heap := h, toks := tk, gens := g }) :
    wpAny (model prog w) A (newList []) (fun acc s₃ => wpAny (model prog w) A (newFunctionEnv scope env.globals cl [] env.qual none .none (some env)) (fun cenv s₄ =>
      codeAny (model prog w) A (.compStart (.ListComp elt [⟨target, iter, [], 0⟩] scope pos) 0 (.ref I) acc { cenv with scope := relabel scope env }) (RR acc cenv.locals) s₄) E s₃) E s₂ := by
  refine block (P' := fun _ => True) Wk (by rw [sizeLine_eq]; (first | lia | omega)) hIo hcell hkind hst hfp (fun i s' v Q' E' st _ h => hgo i s' v Q' E' st h) (fun _ _ _ => trivial) (AccM h₁ P) (fun X i ys h h' u x => AccM.up u x) (fun X => ⟨rfl, fun _ _ j y e => by simp at e⟩) ?turn ?fin
  case turn =>
    intro C D i v ys m s₃ E' hi hP hs₃ hk₃ hex hC0 hCI hns hA
    have kp3 : Kp h₁ s₃.heap := fun b o e => hk₃ b o (fun z => by rw [z, hI] at e; cases e) (k1 _ _ e)
    have hC1 := none_of k1 hC0
    have hD1 : ∀ X : Addr → Prop, (∀ b, X b → h₁.get? b ≠ none ∨ OwnC I C D b) → ∀ b, X b → s₃.heap.get? b ≠ none := fun X hX b hb => by
      rcases hX b hb with h | h
      · intro z; exact h (none_of kp3 z)
      · exact hex b h
    refine wpAny_mono (turn C i v m s₃ (fun y s₆ => CStep C s₃ s₆ ∧ AccM h₁ P (OwnC I C D) (i + 1) (ys ++ [y]) s₆.heap) E' hi hP hs₃ kp3 hC1 hns ?_) (fun _ s₄ h₄ => wpAny_tests_nil (by simp only [if_true]; exact h₄)) fun _ _ e => e
    intro y h tk g m' go hk hn hf
    refine ⟨⟨h, tk, g, m', rfl, go, hk, hn⟩, ?_⟩
    have hA' := AccM.up (h' := h) (fun b o hb e => hk b o (fun z => hb (.inr (.inl z))) e) hA
    refine ⟨by rw [List.length_append, List.length_singleton, hA'.1], fun X hX j y' e => ?_⟩
    by_cases hj : j < ys.length
    · rw [List.getElem?_append_left hj] at e
      exact hA'.2 X hX j y' e
    · rw [List.getElem?_append_right (by (first | lia | omega))] at e
      have hj2 : j = i := by
        have := (List.getElem?_eq_some_iff.mp e).1
        have := hA.1
        simp at *; (first | lia | omega)
      subst hj2
      rw [hA.1, Nat.sub_self] at e
      have : y = y' := by simpa using e
      subst this
      exact hf X (hD1 X hX)
  case fin =>
    intro D C h tk g m ys k hk go hD0 hC0 hDC hDI hCI hns hl _ hA
    have kp : Kp h₁ h := fun b o e => hk b o (fun z => by rw [z, hI] at e; cases e) (k1 _ _ e)
    refine fin D C h tk g m kp go (none_of k1 hD0) (none_of k1 hC0) hns fun X hX h' u => ⟨ys, k, u D _ (fun z => ?_) hl, hA.1, fun i y e => hA.2 X (fun b hb => (hX b hb).imp id fun z => .inr (.inl z)) i y e h' u⟩
    rcases hX D z with q | q
    · exact q (none_of k1 hD0)
    · exact hDC q
/-- a list comprehension over a list -/
theorem comp_list {elt target iter : Expr} {scope : Scope} {cl : List (Str × Addr)} {pos : Pos} {Q : Value → Shared → Prop} (hh : A.handled = none)
    (hs : ∀ x, foldedSetIterable iter env x = pure x) (hclos : closureFor scope env = pure cl) (hkind : scope.kind = .function) (hnames : ∀ x ∈ scope.names, x.2 = .local → scope.names.lookup x.1 = some .local) (hcell : ∀ y ∈ scope.names, y.2 ≠ .cell)
    (h : wpAny (model prog w) A (eval iter env) (fun x s₁ => ∃ l items, x = .ref l ∧ s₁.heap.IsList l items ∧ items.size ≤ 1000 ∧ ∃ P : Nat → Value → Heap → Prop,
      (∀ C i v m (s₃ : Shared) (Q' : Value → Shared → Prop) E', items[i]? = some v → (∃ h tk g, s₃ = { s₁ with heap := h, toks := tk, gens := g } ∧ GOk s₁.gens g) → Kp s₁.heap s₃.heap → s₁.heap.get? C = none → s₃.heap.Ns C m →
        (∀ y h tk g m', GOk s₃.gens g → (∀ b o, b ≠ C → s₃.heap.get? b = some o → h.get? b = some o) → h.Ns C m' → Fresh s₃.heap h (P i y) → Q' y { s₃ with heap := h, toks := tk, gens := g }) →
        wpAny (model prog w) A (assign target (compEnvC scope cl C env) v) (fun _ s₄ => wpAny (model prog w) A (eval elt (compEnvC scope cl C env)) Q' E' s₄) E' s₃) ∧
      (∀ D h tk g, Kp s₁.heap h → GOk s₁.gens g → s₁.heap.get? D = none → Fresh s₁.heap h (Made D items.size P) → Q (.ref D) { s₁ with heap := h, toks := tk, gens := g })) E s) :
    wpAny (model prog w) A (eval (.ListComp elt [⟨target, iter, [], 0⟩] scope pos) env) Q E s := by
  rw [eval_ListComp]
  refine wpAny_comprehension_free (use := none) (cl := cl) rfl hs hclos hkind hnames (wpAny_mono h (fun x s₁ h₁ => ?_) fun _ _ e => e)
  obtain ⟨l, items, rfl, hl, hz, P, turn, fin⟩ := h₁
  have kp0 : ∀ (o : Obj), Kp s₁.heap (s₁.heap.push o) := fun o b x e => Heap.get?_push_of_some _ e
  have hnone : s₁.heap.get? s₁.heap.objs.size = none := by
    cases q : s₁.heap.get? s₁.heap.objs.size with
    | none => rfl
    | some o => exact absurd (Heap.lt_size q) (Nat.lt_irrefl _)
  have hne : l ≠ s₁.heap.objs.size := by obtain ⟨o, ho, _⟩ := hl; exact Nat.ne_of_lt (Heap.lt_size ho)
  refine wpAny_pyIter_list hl ?_
  refine comp_walk (h₁ := s₁.heap) (Walks.list hh _ l hne items) hz (fun i h st => let ⟨o, e, _⟩ := st.1; ⟨o, e⟩) hcell hkind ⟨⟨_, Heap.get?_push_size _ rfl, rfl, rfl⟩, isList_keep hl (kp0 _)⟩
    (fun b hb => ?_) (fun i s' v Q' E' st h => letGo_list st.1 h) (kp0 _) hnone P ?turn ?fin
  · show b < (s₁.heap.push _).objs.size
    rw [Heap.size_push]
    obtain ⟨o, ho, _⟩ := hl
    rcases List.mem_cons.mp hb with rfl | hb
    · exact Nat.lt_succ_self _
    · rw [List.mem_singleton.mp hb]; exact Nat.lt_succ_of_lt (Heap.lt_size ho)
  case turn =>
    rintro C i v m s₃ Q' E' hi hv ⟨h, tk, g, rfl, go⟩ k hC hn hQ
    exact turn C i v m _ Q' E' hv ⟨h, tk, g, rfl, go⟩ k hC hn hQ
  case fin =>
    intro D C h tk g m k go hD hC hn hM
    refine ⟨m, hn, fun h' hs' => ?_⟩
    have hs' : Heap.SameBut C h h' := hs'
    refine fin D h' tk g (fun b o e => (hs'.2 b (fun z => by rw [z, hC] at e; cases e)).trans (k _ _ e)) go hD fun X hX => ?_
    have := hM (fun b => X b ∨ b = C) (fun b hb => hb.imp (hX b) id)
    exact fun h'' u => this h'' fun b o hb e => u b o (fun z => hb (.inl z)) ((hs'.2 b fun z => hb (.inr z)).trans e)
end
end Mine

end
section
open PySem PySem.W PySem.Calls PyProof.Rows
set_option Elab.async false
set_option linter.unusedVariables false
namespace Mine
open PySem.W.X
/-- the law's own def, as the program bears it -/
noncomputable def lawPart : List Stmt × Scope := match PySem.Challenge.pw_om0053_01.main.body.getLast? with
  | some (.FunctionDef _ _ body _ _ _ scope _ _ _) => (body, scope)
  | _ => ([], default)
noncomputable def lawBody : List Stmt := lawPart.1
noncomputable def lawScope : Scope := lawPart.2
noncomputable def lawEnv (L : Addr) (cd : Value) : Env := envOfC (Str.ofString "law") lawScope L 146 cd
theorem law_len : lawBody.length = 14 := by rfl
noncomputable def Own3 (L cw : Addr) (b : Addr) : Prop := b = L ∨ b = cw ∨ b = 37
structure LawAt (s₀ : Shared) (L cw : Addr) (tb : Array Value) (m : Str → Option Value) (cv : Option Value) (s : Shared) : Prop where
  keep : Up (fun b => b = 37) s₀.heap s.heap
  ns : s.heap.Ns L m
  cell : s.heap.IsCell cw cv
  fL : s₀.heap.get? L = none
  fc : s₀.heap.get? cw = none
  ne : L ≠ cw
  tab : s.heap.get? 37 = some (tableObj tb)
  gens : GOk s₀.gens s.gens
  drawn : s.drawn = s₀.drawn
  os : s.os = s₀.os
theorem K2_no37 : ∀ p : Params, (Mine.K2 p).lookup 37 = none := by k_fill; intro p; kernel_rfl
theorem K2_off {p : Params} {h h' : Heap} (X : (Mine.K2 p).In h) (u : Up (fun b => b = 37) h h') : (Mine.K2 p).In h' := fun a o e => u a o (fun z => by rw [z, K2_no37] at e; cases e) (X a o e)
theorem top_off {mg mb : Str → Option Value} {h h' : Heap} (T : TopRead Mine.myView LS mg mb h) (u : Up (fun b => b = 37) h h') : TopRead Mine.myView LS mg mb h' :=
  ⟨T.g.at' fun o e => u _ o (by decide) e, T.b.at' fun o e => u _ o (by decide) e, T.nolimit.at fun o e => u _ o (by decide) e, T.builtins, T.free⟩
section
variable {w : World} {mg mb : Str → Option Value} {A : Around} {E : Value → Shared → Prop} {s₀ s : Shared} {L cw : Addr} {tb : Array Value} {m : Str → Option Value} {cv : Option Value} {cd : Value}
theorem LawAt.grow {h' : Heap} {tk : Nat} {g' : Array GenState} (x : LawAt s₀ L cw tb m cv s) (k : Kp s.heap h') (go : GOk s.gens g') : LawAt s₀ L cw tb m cv { s with heap := h', toks := tk, gens := g' } :=
  ⟨x.keep.trans (.of_kp k), x.ns.keeps k, x.cell.keeps k, x.fL, x.fc, x.ne, k _ _ x.tab, x.gens.trans go, x.drawn, x.os⟩
theorem LawAt.grow' {h' : Heap} {tk : Nat} (x : LawAt s₀ L cw tb m cv s) (k : Kp s.heap h') : LawAt s₀ L cw tb m cv { s with heap := h', toks := tk } := x.grow (g' := s.gens) k (GOk.refl _)
theorem LawAt.L37 (x : LawAt s₀ L cw tb m cv s) : L ≠ 37 := fun z => by
  have e := x.tab
  obtain ⟨o, es, ep, e2, hd, _⟩ := x.ns
  rw [z, e] at e2; injection e2 with e2; rw [← e2] at hd; cases hd
theorem LawAt.c37 (x : LawAt s₀ L cw tb m cv s) : cw ≠ 37 := fun z => by
  have e := x.tab
  obtain ⟨o, e2, hd⟩ := x.cell
  rw [z, e] at e2; injection e2 with e2; rw [← e2] at hd; cases hd
theorem LawAt.there (x : LawAt s₀ L cw tb m cv s) : ∀ b, Own3 L cw b → s.heap.get? b ≠ none := fun b hb z => by
  rcases hb with rfl | rfl | rfl
  · obtain ⟨o, es, ep, e, _⟩ := x.ns; rw [e] at z; cases z
  · obtain ⟨o, e, _⟩ := x.cell; rw [e] at z; cases z
  · have e := x.tab; rw [e] at z; cases z
theorem LawAt.X (x : LawAt s₀ L cw tb m cv s) (X : (Mine.K2 w.params).In s₀.heap) : (Mine.K2 w.params).In s.heap := K2_off X x.keep
theorem LawAt.T (x : LawAt s₀ L cw tb m cv s) (T : TopRead Mine.myView LS mg mb s₀.heap) : TopRead Mine.myView LS mg mb s.heap := top_off T x.keep
theorem law_store {M : Model} {x : Str} {v : Value} {Q : Unit → Shared → Prop} (Y : LawAt s₀ L cw tb m cv s)
    (h : ∀ h' tk, LawAt s₀ L cw tb (fun y => if y = x then some v else m y) cv { s with heap := h', toks := tk } → Up (Own3 L cw) s.heap h' → Q () { s with heap := h', toks := tk })
    (hk : (lawEnv L cd).kindOf x = some .local := by rfl) : wpAny M A (storeName (lawEnv L cd) x v) Q E s := by
  refine wpAny_storeName_local hk Y.ns (fun h' hn hs => ?_) rfl
  replace hs : Heap.SameBut L s.heap h' := hs
  refine h h' _ ⟨fun b o hb e => (hs.2 b (fun z => by rw [z, Y.fL] at e; cases e)).trans (Y.keep b o hb e), hn, ?_, Y.fL, Y.fc, Y.ne, ?_, Y.gens, Y.drawn, Y.os⟩ fun b o hb e => (hs.2 b (fun z => hb (.inl z))).trans e
  · obtain ⟨o, e, hd⟩ := Y.cell; exact ⟨o, (hs.2 _ (Ne.symm Y.ne)).trans e, hd⟩
  · exact (hs.2 _ (Ne.symm Y.L37)).trans Y.tab
theorem law_storeCell {M : Model} {v : Value} {Q : Unit → Shared → Prop} (Y : LawAt s₀ L cw tb m cv s) (hc : (lawEnv L cd).cells.lookup (Str.ofString "ways") = some cw)
    (h : ∀ h', LawAt s₀ L cw tb m (some v) { s with heap := h' } → Up (Own3 L cw) s.heap h' → Q () { s with heap := h' }) : wpAny M A (storeName (lawEnv L cd) (Str.ofString "ways") v) Q E s := by
  refine wpAny_storeName_cell rfl rfl hc Y.cell (fun h' hn hs => ?_)
  refine h h' ⟨fun b o hb e => (hs.2 b (fun z => by rw [z, Y.fc] at e; cases e)).trans (Y.keep b o hb e), ?_, hn, Y.fL, Y.fc, Y.ne, ?_, Y.gens, Y.drawn, Y.os⟩ fun b o hb e => (hs.2 b (fun z => hb (.inr (.inl z)))).trans e
  · exact Y.ns.at' fun o e => (hs.2 _ Y.ne).trans e
  · exact (hs.2 _ (Ne.symm Y.c37)).trans Y.tab
theorem law_ld {M : Model} {x : Str} {pos : Pos} {v : Value} {Q : Value → Shared → Prop} (Y : LawAt s₀ L cw tb m cv s) (hv : m x = some v) (h : Q v s)
    (hl : (lawEnv L cd).kindOf x = some .local := by rfl) (hd : (x == ("__debug__" : Str)) = false := by decide) : wpAny M A (eval (.Name x pos) (lawEnv L cd)) Q E s :=
  wpAny_Name (wpAny_loadName_local rfl hl Y.ns hv h) hd
theorem law_ldCell {M : Model} {pos : Pos} {v : Value} {Q : Value → Shared → Prop} (Y : LawAt s₀ L cw tb m (some v) s) (hc : (lawEnv L cd).cells.lookup (Str.ofString "ways") = some cw) (h : Q v s) :
    wpAny M A (eval (.Name (Str.ofString "ways") pos) (lawEnv L cd)) Q E s :=
  wpAny_Name (wpAny_loadName_cell rfl rfl hc Y.cell h) (by decide)
/-- a builtin's name, in any function's frame -/
theorem boot_name {M : Model} {env : Env} {x : Str} {pos : Pos} {v : Value} {Q : Value → Shared → Prop} {h : Heap} (hk : env.scope.kind = .function) (hx : env.kindOf x = some .globalImplicit) (hg : env.globals = mainGlobals) (hb : env.builtins = builtinsNs)
    (X : (Mine.K2 w.params).In h) (T : TopRead Mine.myView LS mg mb h) (e : s.heap = h) (hm : nsIn (Mine.K2 w.params) mainGlobals x = some none) (hv : bootBuiltins x = some v) (hne : x ≠ Str.ofString "__name__") (hQ : Q v s) (hd : (x == ("__debug__" : Str)) = false := by decide) :
    wpAny M A (eval (.Name x pos) env) Q E s := by
  subst e
  exact Name_function_global hk hx (loadGlobal_builtin (mg := mg) (mb := mb) (by rw [hg]; exact T.g) (mg_none_of X T.g hm) (by rw [hb]; exact T.b) ((T.builtins _ hne).trans hv) hQ) hd
end
theorem no_sum : ∀ p : Params, nsIn (Mine.K2 p) mainGlobals (Str.ofString "sum") = some none := by k_fill; intro p; kernel_rfl
theorem no_min : ∀ p : Params, nsIn (Mine.K2 p) mainGlobals (Str.ofString "min") = some none := by k_fill; intro p; kernel_rfl
theorem no_range : ∀ p : Params, nsIn (Mine.K2 p) mainGlobals (Str.ofString "range") = some none := by k_fill; intro p; kernel_rfl
theorem no_len : ∀ p : Params, nsIn (Mine.K2 p) mainGlobals (Str.ofString "len") = some none := by k_fill; intro p; kernel_rfl
theorem no_sorted : ∀ p : Params, nsIn (Mine.K2 p) mainGlobals (Str.ofString "sorted") = some none := by k_fill; intro p; kernel_rfl
theorem keep136 : ∀ p : Params, keepIn (Mine.K2 p) (.ref 136) = true := by k_fill; intro p; kernel_rfl
theorem keep103 : ∀ p : Params, keepIn (Mine.K2 p) (.ref 103) = true := by k_fill; intro p; kernel_rfl
theorem keep115 : ∀ p : Params, keepIn (Mine.K2 p) (.ref 115) = true := by k_fill; intro p; kernel_rfl
theorem keep35 : ∀ p : Params, keepIn (Mine.K2 p) (.ref 35) = true := by k_fill; intro p; kernel_rfl
theorem keep42 : ∀ p : Params, keepIn (Mine.K2 p) (.ref 42) = true := by k_fill; intro p; kernel_rfl
theorem name136 : ∀ p : Params, nsIn (Mine.K2 p) mainGlobals (Str.ofString "_law_move") = some (some (.ref 136)) := by k_fill; intro p; kernel_rfl
theorem name103 : ∀ p : Params, nsIn (Mine.K2 p) mainGlobals (Str.ofString "_law_piece") = some (some (.ref 103)) := by k_fill; intro p; kernel_rfl
theorem name115 : ∀ p : Params, nsIn (Mine.K2 p) mainGlobals (Str.ofString "_law_read") = some (some (.ref 115)) := by k_fill; intro p; kernel_rfl
theorem name35 : ∀ p : Params, nsIn (Mine.K2 p) mainGlobals (Str.ofString "_check_parenthesis") = some (some (.ref 35)) := by k_fill; intro p; kernel_rfl
theorem name42 : ∀ p : Params, nsIn (Mine.K2 p) mainGlobals (Str.ofString "cmp_to_key") = some (some (.ref 42)) := by k_fill; intro p; kernel_rfl
theorem name129 : ∀ p : Params, nsIn (Mine.K2 p) mainGlobals (Str.ofString "_law_turn") = some (some (.ref 129)) := by k_fill; intro p; kernel_rfl
/-- a list of ints, of texts, of truths -/
noncomputable def Ints (a : Addr) (ns : List Int) (h : Heap) : Prop := ∃ vs : List Value, h.IsList a vs.toArray ∧ IntsAre vs ns
noncomputable def Strs (a : Addr) (ps : List Str) (h : Heap) : Prop := ∃ vs : List Value, h.IsList a vs.toArray ∧ StrsAre vs ps
noncomputable def Bools (a : Addr) (bs : List Bool) (h : Heap) : Prop := h.IsList a (bs.map Value.bool).toArray
end Mine

end
section
open PySem PySem.W PySem.Calls PyProof.Rows
set_option Elab.async false
set_option linter.unusedVariables false
namespace Mine
open PySem.W.X
noncomputable def lawNums (ns : List Int) : List Int := if ((ns.take 2).sum).fmod 2 = 1 then [1320, 2272] ++ ns.take 2 else ns.take 2 ++ [2272, 1320]
section
variable {w : World} {mg mb : Str → Option Value} {A : Around} {E : Value → Shared → Prop} {s₀ s : Shared} {L cw : Addr} {tb : Array Value} {m : Str → Option Value} {cv : Option Value} {cd : Value}
theorem sum_ints {l : Addr} {ns : List Int} {Q : Value → Shared → Prop} {prog : Program} (hh : A.handled = none) (hl : Ints l ns s.heap)
    (h : ∀ h' tk t, Kp s.heap h' → Q (.int ns.sum t) { s with heap := h', toks := tk }) : wpAny (model prog w) A (call (.builtin "sum") [.ref l]) Q E s := by
  obtain ⟨vs, hl, hi⟩ := hl
  obtain ⟨xs, hx⟩ := hi.allInts.items
  have hn : numsOf vs.toArray.toList = ns := by rw [show vs.toArray.toList = vs from rfl, hi.numsOf]
  rw [hx] at hl hn
  rw [nums_intItems] at hn
  refine sum_intListG hh hl fun h' tk t' hk => ?_
  have := h h' tk t' hk
  rw [preSum_eq, List.take_of_length_le (by simp), hn]
  exact this
theorem Ints.keep {l : Addr} {ns : List Int} {h h' : Heap} (x : Ints l ns h) (k : Kp h h') : Ints l ns h' := let ⟨vs, a, b⟩ := x; ⟨vs, isList_keep a k, b⟩
theorem Ints.size {vs : List Value} {ns : List Int} (x : IntsAre vs ns) : vs.length = ns.length := x.length
theorem ev_take2 {Q : Value → Shared → Prop} {p1 p2 p3 p4 : Pos} {k2 : Nat} {prog : Program} {l : Addr} {ns : List Int} (Y : LawAt s₀ L cw tb m cv s) (hm : m (Str.ofString "script") = some (.ref l)) (hl : Ints l ns s.heap) (hlen : ns.length ≤ 63)
    (h : ∀ h' D tk, s.heap.get? D = none → Kp s.heap h' → (∃ vs, h'.get? D = some (W.listOf (List.toArray vs) 0) ∧ IntsAre vs (ns.take 2)) → Q (.ref D) { s with heap := h', toks := tk }) :
    wpAny (model prog w) A (eval (.Subscript (.Name (Str.ofString "script") p1) (.Slice none (some (.Constant (.int 2) k2 p2)) none p3) p4) (lawEnv L cd)) Q E s := by
  obtain ⟨vs, hl, hi⟩ := hl
  refine slice_new (law_ld Y hm (wpAny_evalPart_none (wpAny_evalPart_some (wpAny_Constant_int ⟨l, vs.toArray, none, some 2, rfl, hl, ?_, .none, .int _ _, fun h' D hf kp hD => ?_⟩))))
  · rw [sizeLine_eq, List.size_toArray, Ints.size hi]; (first | lia | omega)
  · have e := pick_upto vs.toArray 2
    rw [show ((2 : Nat) : Int) = 2 from rfl] at e
    rw [e] at hD
    exact h h' D _ hf kp ⟨vs.take 2, hD, hi.take 2⟩
set_option maxRecDepth 100000 in
set_option maxHeartbeats 8000000 in
theorem law_0 {Q : Flow → Shared → Prop} {l : Addr} {ns : List Int} (X : (Mine.K2 w.params).In s₀.heap) (T : TopRead Mine.myView LS mg mb s₀.heap) (hh : A.handled = none)
    (Y : LawAt s₀ L cw tb m cv s) (hm : m (Str.ofString "script") = some (.ref l)) (hl : Ints l ns s.heap) (hlen : ns.length ≤ 63)
    (next : ∀ s' m' a, LawAt s₀ L cw tb m' cv s' → m' (Str.ofString "numbers") = some (.ref a) → (∀ x, x ≠ Str.ofString "numbers" → m' x = m x) → Up (Own3 L cw) s.heap s'.heap → Kept (Own3 L cw) s'.heap (Ints a (lawNums ns)) →
      wpAny (model PySem.Challenge.rw_om0053_01.prog w) A (execs (lawBody.drop 1) (lawEnv L cd)) Q E s') :
    wpAny (model PySem.Challenge.rw_om0053_01.prog w) A (execs (lawBody.drop 0) (lawEnv L cd)) Q E s := by
  show wpAny _ _ (execs (_ :: lawBody.drop 1) _) _ _ _
  have fin : ∀ (s' : Shared) D vs, LawAt s₀ L cw tb m cv s' → Kp s.heap s'.heap → s.heap.get? D = none → (s'.heap.get? D = some (W.listOf (List.toArray vs) 0)) → IntsAre vs (lawNums ns) →
      wpAny (model PySem.Challenge.rw_om0053_01.prog w) A (storeName (lawEnv L cd) (Str.ofString "numbers") (.ref D)) (fun _ s₁ => wpAny (model PySem.Challenge.rw_om0053_01.prog w) A (execs (lawBody.drop 1) (lawEnv L cd)) Q E s₁) E s' := fun s' D vs Y' kp hf hD hi => by
    refine law_store Y' fun h' tk Y2 u => ?_
    refine next _ _ D Y2 (if_pos rfl) (fun x hx => if_neg hx) ((Up.of_kp kp).trans u) ?_
    have k : Kept (Own3 L cw) s'.heap (Ints D (lawNums ns)) := (Kept.obj (fun z => Y.there _ z hf) hD).imp fun h e => ⟨vs, ⟨_, e, rfl, _, rfl⟩, hi⟩
    exact k.up u
  refine wpAny_execs_cons (wpAny_Assign_Name (IfExp_ (wpAny_isTrue_Compare1 (wpAny_BinOp (Call_ (boot_name (w := w) (mg := mg) (mb := mb) rfl rfl rfl rfl (Y.X X) (Y.T T) rfl (no_sum _) boot_sum (by decide) ?_))))))
  refine PyProof.Rows.callWith_builtin1 (args_cons (ev_take2 Y hm hl hlen fun h1 D1 t1 hf1 kp1 hD1 => args_nil ?_))
  obtain ⟨vs1, e1, i1⟩ := hD1
  have l1 : Ints D1 (ns.take 2) h1 := ⟨vs1, ⟨_, e1, rfl, _, rfl⟩, i1⟩
  with_reducible refine sum_ints hh l1 fun h2 tk2 t2 kp2 => wpAny_Constant_int (mod_int' (by decide) (wpAny_Constant_int (eq_int (wpAny_truthy_bool ?_))))
  have kp2' : Kp h1 h2 := kp2
  have k02 : Kp s.heap h2 := fun b o e => kp2' _ _ (kp1 _ _ e)
  have hl2 := hl.keep k02
  by_cases hc : ((ns.take 2).sum).fmod 2 = 1
  · rw [if_pos (beq_iff_eq.mpr hc)]
    have hn : lawNums ns = [1320, 2272] ++ ns.take 2 := by rw [lawNums, if_pos hc]
    refine wpAny_BinOp (List_ (spliced_more (wpAny_Constant_int (spliced_more (wpAny_Constant_int (spliced_none (wpAny_newList ?_)))))))
    have kp3 : ∀ o, Kp h2 (h2.push o) := fun o b x e => Heap.get?_push_of_some _ e
    refine ev_take2 (Y.grow' fun b o e => kp3 _ _ _ (k02 _ _ e)) hm (hl2.keep (kp3 _)) hlen fun h4 D4 t4 hf4 kp4 hD4 => ?_
    obtain ⟨vs4, e4, i4⟩ := hD4
    have kp4' : Kp _ h4 := kp4
    refine add_listsH (vs := [.int 1320 _, .int 2272 _]) (ws := vs4) ⟨_, kp4' _ _ (Heap.get?_push_size _ rfl), rfl, _, rfl⟩ ⟨_, e4, rfl, _, rfl⟩ (by rw [Ints.size i4, List.length_take, sizeLine_eq]; simp; (first | lia | omega)) fun h5 D hf5 kp5 hD => ?_
    have kp5' : Kp h4 h5 := kp5
    have k05 : Kp s.heap h5 := fun b o e => kp5' _ _ (kp4' _ _ (kp3 _ _ _ (k02 _ _ e)))
    have hfD : s.heap.get? D = none := none_of (h' := h4) (fun b o e => kp4' _ _ (kp3 _ _ _ (k02 _ _ e))) hf5
    refine fin _ D _ (Y.grow' k05) k05 hfD hD ?_
    rw [hn]
    exact .cons _ _ (.cons _ _ i4)
  · rw [if_neg (by simpa using hc)]
    have hn : lawNums ns = ns.take 2 ++ [2272, 1320] := by rw [lawNums, if_neg hc]
    refine wpAny_BinOp (ev_take2 (Y.grow' k02) hm hl2 hlen fun h4 D4 t4 hf4 kp4 hD4 => ?_)
    obtain ⟨vs4, e4, i4⟩ := hD4
    have kp4' : Kp h2 h4 := kp4
    refine List_ (spliced_more (wpAny_Constant_int (spliced_more (wpAny_Constant_int (spliced_none (wpAny_newList ?_))))))
    have kp3 : ∀ o, Kp h4 (h4.push o) := fun o b x e => Heap.get?_push_of_some _ e
    refine add_listsH (vs := vs4) (ws := [.int 2272 _, .int 1320 _]) ⟨_, kp3 _ _ _ e4, rfl, _, rfl⟩ ⟨_, Heap.get?_push_size _ rfl, rfl, _, rfl⟩ (by rw [Ints.size i4, List.length_take, sizeLine_eq]; simp; (first | lia | omega)) fun h5 D hf5 kp5 hD => ?_
    have kp5' : Kp _ h5 := kp5
    have k05 : Kp s.heap h5 := fun b o e => kp5' _ _ (kp3 _ _ _ (kp4' _ _ (k02 _ _ e)))
    have hfD : s.heap.get? D = none := none_of (fun b o e => kp3 _ _ _ (kp4' _ _ (k02 _ _ e))) hf5
    refine fin _ D _ (Y.grow' k05) k05 hfD hD ?_
    rw [hn]
    exact i4.append (.cons _ _ (.cons _ _ .nil))
end
end Mine

end
section
open PySem PySem.W PySem.Calls PyProof.Rows
set_option Elab.async false
set_option linter.unusedVariables false
namespace Mine
open PySem.W.X
theorem Fresh.mono' {h₀ h₁ h : Heap} {φ : Heap → Prop} (x : Fresh h₁ h φ) (k : ∀ b, h₀.get? b ≠ none → h₁.get? b ≠ none) : Fresh h₀ h φ := fun X hX => x X fun b hb => k b (hX b hb)
theorem ns_there {h h' : Heap} {C : Addr} {m : Str → Option Value} (hn : h'.Ns C m) (hs : ∀ b o, b ≠ C → h.get? b = some o → h'.get? b = some o) : ∀ b, h.get? b ≠ none → h'.get? b ≠ none := fun b hb => by
  by_cases e : b = C
  · subst e; obtain ⟨o, es, ep, e, _⟩ := hn; rw [e]; exact fun z => nomatch z
  · cases q : h.get? b with
    | none => exact absurd q hb
    | some o => rw [hs b o e q]; exact fun z => nomatch z
section
variable {prog : Program} {w : World} {A : Around} {E : Value → Shared → Prop} {s : Shared} {env : Env}
/-- what an element of a comprehension is to show -/
noncomputable def Elt (prog : Program) (w : World) (A : Around) (env' : Env) (elt : Expr) (h₁ : Heap) (s₁ : Shared) (P : Value → Heap → Prop) (m : Str → Option Value) (s₄ : Shared) : Prop :=
  ∀ (Q' : Value → Shared → Prop) (E' : Value → Shared → Prop), (∀ y h tk g, GOk s₄.gens g → Kp s₄.heap h → Fresh s₄.heap h (P y) → Q' y { s₄ with heap := h, toks := tk, gens := g }) → wpAny (model prog w) A (eval elt env') Q' E' s₄
theorem turn_name {elt : Expr} {x : Str} {px : Pos} {scope : Scope} {cl : List (Str × Addr)} {s₁ : Shared} {P : Value → Heap → Prop} {C : Addr} {v : Value} {m : Str → Option Value} {s₃ : Shared} {Q' : Value → Shared → Prop} {E' : Value → Shared → Prop}
    (hkind : scope.kind = .function) (hx : scope.names.lookup x = some .local)
    (hs₃ : ∃ h tk g, s₃ = { s₁ with heap := h, toks := tk, gens := g } ∧ GOk s₁.gens g) (k : Kp s₁.heap s₃.heap) (hC : s₁.heap.get? C = none) (hn : s₃.heap.Ns C m)
    (hQ : ∀ y h tk g m', GOk s₃.gens g → (∀ b o, b ≠ C → s₃.heap.get? b = some o → h.get? b = some o) → h.Ns C m' → Fresh s₃.heap h (P y) → Q' y { s₃ with heap := h, toks := tk, gens := g })
    (he : ∀ m' s₄, (∃ h tk g, s₄ = { s₁ with heap := h, toks := tk, gens := g } ∧ GOk s₁.gens g) → Kp s₁.heap s₄.heap → s₄.heap.Ns C m' → m' x = some v → Elt prog w A (compEnvC scope cl C env) elt s₁.heap s₁ P m' s₄) :
    wpAny (model prog w) A (assign (.Name x px) (compEnvC scope cl C env) v) (fun _ s₄ => wpAny (model prog w) A (eval elt (compEnvC scope cl C env)) Q' E' s₄) E' s₃ := by
  obtain ⟨h₃, tk₃, g₃, rfl, go₃⟩ := hs₃
  refine wpAny_assign_Name (wpAny_storeName_local (lookup_relabel_local hx) hn (fun h₄ hn₄ hs₄ => ?_) (by simp [compEnvC, relabel, hkind]))
  replace hs₄ : Heap.SameBut C h₃ h₄ := hs₄
  have kp4 : Kp s₁.heap h₄ := fun b o e => (hs₄.2 b (fun z => by rw [z, hC] at e; cases e)).trans (k _ _ e)
  have off : ∀ b o, b ≠ C → h₃.get? b = some o → h₄.get? b = some o := fun b o hb e => (hs₄.2 b hb).trans e
  refine he _ _ ⟨_, _, _, rfl, go₃⟩ kp4 hn₄ (if_pos rfl) Q' E' fun y h tk g go kp hf => ?_
  have kp' : Kp h₄ h := kp
  exact hQ y h tk g _ go (fun b o hb e => kp' _ _ (off b o hb e)) (hn₄.keeps kp') (hf.mono' (ns_there hn₄ off))
theorem turn_pair {elt : Expr} {x1 x2 : Str} {px1 px2 pt : Pos} {k2 : Nat} {scope : Scope} {cl : List (Str × Addr)} {s₁ : Shared} {P : Value → Heap → Prop} {C a : Addr} {v1 v2 : Value} {m : Str → Option Value} {s₃ : Shared} {Q' : Value → Shared → Prop} {E' : Value → Shared → Prop}
    (hh : A.handled = none) (hkind : scope.kind = .function) (hx1 : scope.names.lookup x1 = some .local) (hx2 : scope.names.lookup x2 = some .local) (hne : x1 ≠ x2) (hl : s₁.heap.IsList a #[v1, v2])
    (hs₃ : ∃ h tk g, s₃ = { s₁ with heap := h, toks := tk, gens := g } ∧ GOk s₁.gens g) (k : Kp s₁.heap s₃.heap) (hC : s₁.heap.get? C = none) (hn : s₃.heap.Ns C m)
    (hQ : ∀ y h tk g m', GOk s₃.gens g → (∀ b o, b ≠ C → s₃.heap.get? b = some o → h.get? b = some o) → h.Ns C m' → Fresh s₃.heap h (P y) → Q' y { s₃ with heap := h, toks := tk, gens := g })
    (he : ∀ m' s₄, (∃ h tk g, s₄ = { s₁ with heap := h, toks := tk, gens := g } ∧ GOk s₁.gens g) → Kp s₁.heap s₄.heap → s₄.heap.Ns C m' → m' x1 = some v1 → m' x2 = some v2 → Elt prog w A (compEnvC scope cl C env) elt s₁.heap s₁ P m' s₄) :
    wpAny (model prog w) A (assign (.Tuple [.Name x1 px1, .Name x2 px2] k2 pt) (compEnvC scope cl C env) (.ref a)) (fun _ s₄ => wpAny (model prog w) A (eval elt (compEnvC scope cl C env)) Q' E' s₄) E' s₃ := by
  obtain ⟨h₃, tk₃, g₃, rfl, go₃⟩ := hs₃
  refine assign_two (env := compEnvC scope cl C env) hh hn (isList_keep hl k) (lookup_relabel_local hx1) (lookup_relabel_local hx2) (by simp [compEnvC, relabel, hkind]) fun h₄ tk₄ hn₄ off => ?_
  replace off : ∀ b o, b ≠ C → h₃.get? b = some o → h₄.get? b = some o := off
  have kp4 : Kp s₁.heap h₄ := fun b o e => off b o (fun z => by rw [z, hC] at e; cases e) (k _ _ e)
  refine he _ _ ⟨_, _, _, rfl, go₃⟩ kp4 hn₄ ((if_neg hne).trans (if_pos rfl)) (if_pos rfl) Q' E' fun y h tk g go kp hf => ?_
  have kp' : Kp h₄ h := kp
  exact hQ y h tk g _ go (fun b o hb e => kp' _ _ (off b o hb e)) (Heap.Ns.keeps hn₄ kp') (hf.mono' (ns_there hn₄ off))
end
theorem made_ints {D : Addr} {xs : List Int} {h : Heap} (M : Made D xs.length (fun i y _ => ∃ n t, xs[i]? = some n ∧ y = .int n t) h) : Ints D xs h := by
  obtain ⟨ys, k, e, hl, hy⟩ := M
  refine ⟨ys, ⟨_, e, rfl, _, rfl⟩, ?_⟩
  clear e
  induction ys generalizing xs with
  | nil => cases xs with
    | nil => exact .nil
    | cons x r => cases hl
  | cons y r ih => cases xs with
    | nil => cases hl
    | cons x xr =>
      obtain ⟨n, t, e1, rfl⟩ := hy 0 y rfl
      cases e1
      exact .cons _ _ (ih (by simpa using hl) fun i y e => hy (i + 1) y (by simpa using e))
theorem made_strs {D : Addr} {xs : List Str} {h : Heap} (M : Made D xs.length (fun i y _ => ∃ n t, xs[i]? = some n ∧ y = .str n t) h) : Strs D xs h := by
  obtain ⟨ys, k, e, hl, hy⟩ := M
  refine ⟨ys, ⟨_, e, rfl, _, rfl⟩, ?_⟩
  clear e
  induction ys generalizing xs with
  | nil => cases xs with
    | nil => exact .nil
    | cons x r => cases hl
  | cons y r ih => cases xs with
    | nil => cases hl
    | cons x xr =>
      obtain ⟨n, t, e1, rfl⟩ := hy 0 y rfl
      cases e1
      exact .cons _ _ (ih (by simpa using hl) fun i y e => hy (i + 1) y (by simpa using e))
theorem made_bools {D : Addr} {xs : List Bool} {h : Heap} (M : Made D xs.length (fun i y _ => ∃ n, xs[i]? = some n ∧ y = .bool n) h) : Bools D xs h := by
  obtain ⟨ys, k, e, hl, hy⟩ := M
  have : ys = xs.map Value.bool := by
    clear e
    induction ys generalizing xs with
    | nil => cases xs with
      | nil => rfl
      | cons x r => cases hl
    | cons y r ih => cases xs with
      | nil => cases hl
      | cons x xr =>
        obtain ⟨n, e1, rfl⟩ := hy 0 y rfl
        cases e1
        rw [List.map_cons, ih (by simpa using hl) fun i y e => hy (i + 1) y (by simpa using e)]
  subst this
  exact ⟨_, e, rfl, _, rfl⟩
theorem made_moves {D : Addr} {xs : List (Int × Int)} {h : Heap} (M : Made D xs.length (fun i y h => ∃ p a, xs[i]? = some p ∧ y = .ref a ∧ L2 h a p) h) : MovesAt h D xs := by
  obtain ⟨ys, k, e, hl, hy⟩ := M
  refine ⟨ys.toArray, ⟨_, e, rfl, _, rfl⟩, by simpa using hl, fun i p hp => ?_⟩
  have hi : i < ys.length := by have := (List.getElem?_eq_some_iff.mp hp).1; (first | lia | omega)
  obtain ⟨q, a, e1, e2, e3⟩ := hy i ys[i] (List.getElem?_eq_getElem hi)
  rw [hp] at e1; cases e1
  exact ⟨a, by simp [hi, e2], e3⟩
section
variable {w : World} {mg mb : Str → Option Value} {A : Around} {E : Value → Shared → Prop} {s₀ s : Shared} {L cw : Addr} {tb : Array Value} {m : Str → Option Value} {cv : Option Value} {cd : Value}
/-- an assignment to a local name: what is made is told by φ -/
theorem law_assign {rest : List Stmt} {x : Str} {px pos : Pos} {value : Expr} {Q : Flow → Shared → Prop} {φ : Value → Heap → Prop}
    (h : ∀ (Q' : Value → Shared → Prop), (∀ v h' tk g', Kp s.heap h' → GOk s.gens g' → Fresh s.heap h' (φ v) → Q' v { s with heap := h', toks := tk, gens := g' }) → wpAny (model PySem.Challenge.rw_om0053_01.prog w) A (eval value (lawEnv L cd)) Q' E s)
    (Y : LawAt s₀ L cw tb m cv s)
    (next : ∀ s' m' v, LawAt s₀ L cw tb m' cv s' → m' x = some v → (∀ y, y ≠ x → m' y = m y) → Up (Own3 L cw) s.heap s'.heap → Kept (Own3 L cw) s'.heap (φ v) → wpAny (model PySem.Challenge.rw_om0053_01.prog w) A (execs rest (lawEnv L cd)) Q E s')
    (hs : swapsWith value (some (.Name x px)) pos.line (lawEnv L cd) = pure false := by rfl) (hk : (lawEnv L cd).kindOf x = some .local := by rfl) :
    wpAny (model PySem.Challenge.rw_om0053_01.prog w) A (execs (.Assign [.Name x px] value pos :: rest) (lawEnv L cd)) Q E s := by
  refine wpAny_execs_cons (wpAny_Assign_Name (h _ fun v h' tk g' kp go hf => ?_) hs)
  refine law_store (Y.grow kp go) (fun h'' tk' Y2 u => ?_) hk
  exact next _ _ v Y2 (if_pos rfl) (fun y hy => if_neg hy) ((Up.of_kp kp).trans u) ((hf _ Y.there).up u)
theorem LawAt.off {s' : Shared} {C : Addr} {h' : Heap} (x : LawAt s₀ L cw tb m cv s) (hs : Heap.SameBut C s.heap h') (h0 : s₀.heap.get? C = none) (hC : ¬ Own3 L cw C) : LawAt s₀ L cw tb m cv { s with heap := h' } :=
  ⟨fun b o hb e => (hs.2 b (fun z => by rw [z, h0] at e; cases e)).trans (x.keep b o hb e), x.ns.at' fun o e => (hs.2 _ (fun z => hC (.inl z.symm))).trans e,
   let ⟨o, e, hd⟩ := x.cell; ⟨o, (hs.2 _ (fun z => hC (.inr (.inl z.symm)))).trans e, hd⟩, x.fL, x.fc, x.ne, (hs.2 _ (fun z => hC (.inr (.inr z.symm)))).trans x.tab, x.gens, x.drawn, x.os⟩
/-- an assignment of a comprehension to a local name -/
theorem law_comp_walk {rest : List Stmt} {x : Str} {px pos spos : Pos} {elt target iter : Expr} {scope : Scope} {cl : List (Str × Addr)} {Q : Flow → Shared → Prop} {φ : Addr → Heap → Prop} (Y : LawAt s₀ L cw tb m cv s)
    (hs : ∀ x, foldedSetIterable iter (lawEnv L cd) x = pure x) (hclos : closureFor scope (lawEnv L cd) = pure cl) (hkind : scope.kind = .function) (hnames : ∀ x ∈ scope.names, x.2 = .local → scope.names.lookup x.1 = some .local) (hcell : ∀ y ∈ scope.names, y.2 ≠ .cell)
    (hsw : swapsWith (.ListComp elt [⟨target, iter, [], 0⟩] scope pos) (some (.Name x px)) spos.line (lawEnv L cd) = pure true)
    (hk : (lawEnv L cd).kindOf x = some .local)
    (h : wpAny (model PySem.Challenge.rw_om0053_01.prog w) A (eval iter (lawEnv L cd)) (fun x s₁ => wpAny (model PySem.Challenge.rw_om0053_01.prog w) A (pyIter x) (fun it s₂ => ∃ I fp n Pv St, it = .ref I ∧ Walks PySem.Challenge.rw_om0053_01.prog w A I fp [I] n Pv St ∧ n ≤ 1000 ∧ (∀ i h, St i h → ∃ o, h.get? I = some o) ∧ St 0 s₂.heap ∧ (∀ b ∈ fp, b < s₂.heap.objs.size) ∧
      (∀ i (s' : Shared) v (Q' : Unit → Shared → Prop) E', St i s'.heap → Q' () s' → wpAny (model PySem.Challenge.rw_om0053_01.prog w) A (letOwnedTupleGo target (.ref I) v) Q' E' s') ∧
      LawAt s₀ L cw tb m cv s₁ ∧ Up (Own3 L cw) s.heap s₁.heap ∧ Kp s₁.heap s₂.heap ∧ s₁.heap.get? I = none ∧ GOk s₁.gens s₂.gens ∧ s₂.drawn = s₁.drawn ∧ s₂.os = s₁.os ∧
      ∃ P : Nat → Value → Heap → Prop,
      (∀ C i v m (s₃ : Shared) (Q' : Value → Shared → Prop) E', i < n → Pv i v → (∃ h tk g, s₃ = { s₂ with heap := h, toks := tk, gens := g } ∧ GOk s₂.gens g) → Kp s₁.heap s₃.heap → s₁.heap.get? C = none → s₃.heap.Ns C m →
        (∀ y h tk g m', GOk s₃.gens g → (∀ b o, b ≠ C → s₃.heap.get? b = some o → h.get? b = some o) → h.Ns C m' → Fresh s₃.heap h (P i y) → Q' y { s₃ with heap := h, toks := tk, gens := g }) →
        wpAny (model PySem.Challenge.rw_om0053_01.prog w) A (assign target (compEnvC scope cl C (lawEnv L cd)) v) (fun _ s₄ => wpAny (model PySem.Challenge.rw_om0053_01.prog w) A (eval elt (compEnvC scope cl C (lawEnv L cd))) Q' E' s₄) E' s₃) ∧
      (∀ D h, Made D n P h → φ D h)) E s₁) E s)
    (next : ∀ s' m' D, LawAt s₀ L cw tb m' cv s' → m' x = some (.ref D) → (∀ y, y ≠ x → m' y = m y) → Up (Own3 L cw) s.heap s'.heap → Kept (Own3 L cw) s'.heap (φ D) → wpAny (model PySem.Challenge.rw_om0053_01.prog w) A (execs rest (lawEnv L cd)) Q E s') :
    wpAny (model PySem.Challenge.rw_om0053_01.prog w) A (execs (.Assign [.Name x px] (.ListComp elt [⟨target, iter, [], 0⟩] scope pos) spos :: rest) (lawEnv L cd)) Q E s := by
  refine wpAny_execs_cons ?_
  rw [exec_Assign_Name_used _ _ _ _ hsw]
  refine wpAny_bind (wpAny_standAt (wpAny_bind ?_))
  show wpAny _ A (do let _ ← comprehension (.ListComp elt [⟨target, iter, [], 0⟩] scope pos) scope (lawEnv L cd) _ (newList []) false (eval iter (lawEnv L cd)) (some (assign (.Name x px) (lawEnv L cd)))) _ _ s
  refine wpAny_bind (wpAny_mono (wpAny_comprehension_free (use := some (assign (.Name x px) (lawEnv L cd))) (Q := fun _ s' => wpAny (model PySem.Challenge.rw_om0053_01.prog w) A (execs rest (lawEnv L cd)) Q E s') (cl := cl) rfl hs hclos hkind hnames
    (wpAny_mono h (fun xv s₁ h₁ => wpAny_mono h₁ (fun it s₂ h₂ => ?_) fun _ _ e => e) fun _ _ e => e)) (fun _ s' hq => wpAny_pure (wpAny_pure hq)) fun _ _ e => e)
  obtain ⟨I, fp, n, Pv, St, rfl, W, hz, hIo, hst, hfp, hgo, Y1, u1, k12, hI, go12, hdr, hos, P, turn, hφ⟩ := h₂
  refine comp_walk (RR := fun acc C => compPost (model PySem.Challenge.rw_om0053_01.prog w) A E (some (assign (.Name x px) (lawEnv L cd))) (fun _ s' => wpAny (model PySem.Challenge.rw_om0053_01.prog w) A (execs rest (lawEnv L cd)) Q E s') acc C) W hz hIo hcell hkind hst hfp hgo k12 hI P turn ?_
  intro D C h' tk g m' kp go hD hC hn hM
  show wpAny _ A (assign (.Name x px) (lawEnv L cd) (.ref D)) _ _ _
  have e2 : ({ s₂ with heap := h', toks := tk, gens := g } : Shared) = { s₁ with heap := h', toks := tk, gens := g } := by rw [Shared.mk.injEq]; exact ⟨rfl, rfl, hdr, rfl, hos⟩
  rw [e2]
  have hCo : ¬ Own3 L cw C := fun z => Y1.there _ z hC
  refine wpAny_assign_Name (law_store (Y1.grow (tk := tk) kp (go12.trans go)) (fun h'' tk' Y2 u => ?_) hk)
  have u' : Up (Own3 L cw) h' h'' := u
  refine ⟨m', hn.at' fun o e => u' _ o hCo e, fun h3 hs3 => ?_⟩
  have hs3' : Heap.SameBut C h'' h3 := hs3
  have h0 : s₀.heap.get? C = none := by
    cases e : s₀.heap.get? C with
    | none => rfl
    | some o => rw [Y1.keep C o (fun z => hCo (.inr (.inr z))) e] at hC; cases hC
  refine next _ _ D (LawAt.off (s' := s) Y2 hs3' h0 hCo) (if_pos rfl) (fun y hy => if_neg hy) (fun b o hb e => ?_) fun h4 u4 => ?_
  · have e1 := u' b o hb (kp _ _ (u1 b o hb e))
    exact (hs3'.2 b (fun z => by rw [z] at e; have := u1 C o hCo e; rw [hC] at this; cases this)).trans e1
  · refine hφ D h4 (hM (fun b => Own3 L cw b ∨ b = C) (fun b hb => hb.imp (Y1.there b) id) h4 fun b o hb e => ?_)
    exact u4 b o (fun z => hb (.inl z)) ((hs3'.2 b fun z => hb (.inr z)).trans (u' b o (fun z => hb (.inl z)) e))
theorem law_comp {rest : List Stmt} {x : Str} {px pos spos : Pos} {elt target iter : Expr} {scope : Scope} {cl : List (Str × Addr)} {Q : Flow → Shared → Prop} {φ : Addr → Heap → Prop} (hh : A.handled = none) (Y : LawAt s₀ L cw tb m cv s)
    (hs : ∀ x, foldedSetIterable iter (lawEnv L cd) x = pure x) (hclos : closureFor scope (lawEnv L cd) = pure cl) (hkind : scope.kind = .function) (hnames : ∀ x ∈ scope.names, x.2 = .local → scope.names.lookup x.1 = some .local) (hcell : ∀ y ∈ scope.names, y.2 ≠ .cell)
    (hsw : swapsWith (.ListComp elt [⟨target, iter, [], 0⟩] scope pos) (some (.Name x px)) spos.line (lawEnv L cd) = pure true)
    (hk : (lawEnv L cd).kindOf x = some .local)
    (h : wpAny (model PySem.Challenge.rw_om0053_01.prog w) A (eval iter (lawEnv L cd)) (fun x s₁ => ∃ l items, x = .ref l ∧ s₁.heap.IsList l items ∧ items.size ≤ 1000 ∧ LawAt s₀ L cw tb m cv s₁ ∧ Up (Own3 L cw) s.heap s₁.heap ∧
      ∃ P : Nat → Value → Heap → Prop,
      (∀ C i v m (s₃ : Shared) (Q' : Value → Shared → Prop) E', items[i]? = some v → (∃ h tk g, s₃ = { s₁ with heap := h, toks := tk, gens := g } ∧ GOk s₁.gens g) → Kp s₁.heap s₃.heap → s₁.heap.get? C = none → s₃.heap.Ns C m →
        (∀ y h tk g m', GOk s₃.gens g → (∀ b o, b ≠ C → s₃.heap.get? b = some o → h.get? b = some o) → h.Ns C m' → Fresh s₃.heap h (P i y) → Q' y { s₃ with heap := h, toks := tk, gens := g }) →
        wpAny (model PySem.Challenge.rw_om0053_01.prog w) A (assign target (compEnvC scope cl C (lawEnv L cd)) v) (fun _ s₄ => wpAny (model PySem.Challenge.rw_om0053_01.prog w) A (eval elt (compEnvC scope cl C (lawEnv L cd))) Q' E' s₄) E' s₃) ∧
      (∀ D h, Made D items.size P h → φ D h)) E s)
    (next : ∀ s' m' D, LawAt s₀ L cw tb m' cv s' → m' x = some (.ref D) → (∀ y, y ≠ x → m' y = m y) → Up (Own3 L cw) s.heap s'.heap → Kept (Own3 L cw) s'.heap (φ D) → wpAny (model PySem.Challenge.rw_om0053_01.prog w) A (execs rest (lawEnv L cd)) Q E s') :
    wpAny (model PySem.Challenge.rw_om0053_01.prog w) A (execs (.Assign [.Name x px] (.ListComp elt [⟨target, iter, [], 0⟩] scope pos) spos :: rest) (lawEnv L cd)) Q E s := by
  refine law_comp_walk (cl := cl) (φ := φ) Y hs hclos hkind hnames hcell hsw hk (wpAny_mono h (fun xv s₁ h₁ => ?_) fun _ _ e => e) next
  obtain ⟨l, items, rfl, hl, hz, Y1, u1, P, turn, hφ⟩ := h₁
  have kp0 : ∀ (o : Obj), Kp s₁.heap (s₁.heap.push o) := fun o b x e => Heap.get?_push_of_some _ e
  have hnone : s₁.heap.get? s₁.heap.objs.size = none := by
    cases q : s₁.heap.get? s₁.heap.objs.size with
    | none => rfl
    | some o => exact absurd (Heap.lt_size q) (Nat.lt_irrefl _)
  have hne : l ≠ s₁.heap.objs.size := by obtain ⟨o, ho, _⟩ := hl; exact Nat.ne_of_lt (Heap.lt_size ho)
  refine wpAny_pyIter_list hl ⟨_, _, _, _, _, rfl, Walks.list hh _ l hne items, hz, fun i h st => let ⟨o, e, _⟩ := st.1; ⟨o, e⟩, ⟨⟨_, Heap.get?_push_size _ rfl, rfl, rfl⟩, isList_keep hl (kp0 _)⟩, fun b hb => ?_, fun i s' v Q' E' st h => letGo_list st.1 h,
    Y1, u1, kp0 _, hnone, GOk.refl _, rfl, rfl, P, ?_, hφ⟩
  · show b < (s₁.heap.push _).objs.size
    rw [Heap.size_push]
    obtain ⟨o, ho, _⟩ := hl
    rcases List.mem_cons.mp hb with rfl | hb
    · exact Nat.lt_succ_self _
    · rw [List.mem_singleton.mp hb]; exact Nat.lt_succ_of_lt (Heap.lt_size ho)
  · rintro C i v m s₃ Q' E' hi hv ⟨h, tk, g, rfl, go⟩ k hC hn hQ
    exact turn C i v m _ Q' E' hv ⟨h, tk, g, rfl, go⟩ k hC hn hQ
end
end Mine

end
section
open PySem PySem.W PySem.Calls PyProof.Rows
set_option Elab.async false
set_option linter.unusedVariables false
namespace Mine
open PySem.W.X
section
variable {w : World} {mg mb : Str → Option Value} {A : Around} {E : Value → Shared → Prop} {s₀ s : Shared} {L cw : Addr} {tb : Array Value} {m : Str → Option Value} {cv : Option Value} {cd : Value}
set_option maxRecDepth 100000 in
set_option maxHeartbeats 8000000 in
theorem law_1 {Q : Flow → Shared → Prop} {a : Addr} {xs : List Int} (hh : A.handled = none)
    (Y : LawAt s₀ L cw tb m cv s) (hm : m (Str.ofString "numbers") = some (.ref a)) (hl : Ints a xs s.heap) (hlen : xs.length ≤ 4)
    (next : ∀ s' m' b, LawAt s₀ L cw tb m' cv s' → m' (Str.ofString "modes") = some (.ref b) → (∀ x, x ≠ Str.ofString "modes" → m' x = m x) → Up (Own3 L cw) s.heap s'.heap → Kept (Own3 L cw) s'.heap (Ints b (xs.map (·.fmod 65536))) →
      wpAny (model PySem.Challenge.rw_om0053_01.prog w) A (execs (lawBody.drop 2) (lawEnv L cd)) Q E s') :
    wpAny (model PySem.Challenge.rw_om0053_01.prog w) A (execs (lawBody.drop 1) (lawEnv L cd)) Q E s := by
  show wpAny _ _ (execs (_ :: lawBody.drop 2) _) _ _ _
  obtain ⟨vs, hl, hi⟩ := hl
  have hsz : vs.length = xs.length := Ints.size hi
  refine law_comp (cl := []) (φ := fun b h => Ints b (xs.map (·.fmod 65536)) h) hh Y (fun _ => rfl) rfl rfl (by decide) (by decide) rfl rfl (law_ld Y hm ⟨a, vs.toArray, rfl, hl, by rw [List.size_toArray]; (first | lia | omega), Y, Up.refl _,
      (fun i y _ => ∃ n t, (xs.map (·.fmod 65536))[i]? = some n ∧ y = .int n t), fun C i v m₃ s₃ Q₃ E₃ hv hs₃ k hC hn hQ₃ => ?_, fun D h M => made_ints ?_⟩) fun s' m' D Y' h1 h2 u k => next s' m' D Y' h1 h2 u k
  · · refine turn_name rfl rfl hs₃ k hC hn hQ₃ fun m₄ s₄ hs₄ k₄ hn₄ hx Q₅ E₅ hQ₅ => ?_
      obtain ⟨n, t, rfl, hn'⟩ := hi.at i v (by simpa using hv)
      refine wpAny_BinOp (wpAny_Name (wpAny_loadName_local rfl rfl hn₄ hx (wpAny_BinOp (wpAny_Constant_int (wpAny_Constant_int (pow_int_small (by decide) (by decide) (by decide) (mod_int' (by decide) ?_)))))) (by decide))
      exact hQ₅ _ _ _ _ (GOk.refl _) (fun _ _ e => e) (.of fun h => ⟨_, _, by rw [List.getElem?_map, hn']; rfl, rfl⟩)
  · rw [List.size_toArray, hsz, ← List.length_map (f := fun x : Int => x.fmod 65536)] at M
    exact M
set_option maxRecDepth 100000 in
set_option maxHeartbeats 8000000 in
theorem law_2 {Q : Flow → Shared → Prop} {a : Addr} {xs : List Int} (X : (Mine.K2 w.params).In s₀.heap) (T : TopRead Mine.myView LS mg mb s₀.heap) (hh : A.handled = none) (hd : A.depth ≤ 640) (hu : A.units ≤ 4000)
    (Y : LawAt s₀ L cw tb m cv s) (hm : m (Str.ofString "modes") = some (.ref a)) (hl : Ints a xs s.heap) (hlen : xs.length ≤ 4)
    (next : ∀ s' m' b, LawAt s₀ L cw tb m' cv s' → m' (Str.ofString "moves") = some (.ref b) → (∀ x, x ≠ Str.ofString "moves" → m' x = m x) → Up (Own3 L cw) s.heap s'.heap → Kept (Own3 L cw) s'.heap (fun h => MovesAt h b (xs.map moveOf)) →
      wpAny (model PySem.Challenge.rw_om0053_01.prog w) A (execs (lawBody.drop 3) (lawEnv L cd)) Q E s') :
    wpAny (model PySem.Challenge.rw_om0053_01.prog w) A (execs (lawBody.drop 2) (lawEnv L cd)) Q E s := by
  show wpAny _ _ (execs (_ :: lawBody.drop 3) _) _ _ _
  have X1 := Y.X X
  have T1 := Y.T T
  obtain ⟨vs, hl, hi⟩ := hl
  have hsz : vs.length = xs.length := Ints.size hi
  refine law_comp (cl := []) (φ := fun b h => MovesAt h b (xs.map moveOf)) hh Y (fun _ => rfl) rfl rfl (by decide) (by decide) rfl rfl (law_ld Y hm ⟨a, vs.toArray, rfl, hl, by rw [List.size_toArray]; (first | lia | omega), Y, Up.refl _,
      (fun i y h => ∃ p a, (xs.map moveOf)[i]? = some p ∧ y = .ref a ∧ L2 h a p), fun C i v m₃ s₃ Q₃ E₃ hv hs₃ k hC hn hQ₃ => ?_, fun D h M => made_moves ?_⟩) fun s' m' D Y' h1 h2 u k => next s' m' D Y' h1 h2 u k
  · · refine turn_name rfl rfl hs₃ k hC hn hQ₃ fun m₄ s₄ hs₄ k₄ hn₄ hx Q₅ E₅ hQ₅ => ?_
      obtain ⟨n, t, rfl, hn'⟩ := hi.at i v (by simpa using hv)
      have X4 := X1.keeps k₄
      have T4 := T1.keeps k₄
      refine Call_ (Name_function_global rfl rfl (loadGlobal_global (mg := mg) T4.g (mg_of X4 T4.g (name136 _)) (callWith_K (K := Mine.K2 w.params) X4 (keep136 _) (args_cons (wpAny_Name (wpAny_loadName_local rfl rfl hn₄ hx (args_nil ⟨X4, ?_⟩)) (by decide))))))
      refine AA_mono 20 (move_spec w mg mb n t _ _ _ X4 T4 trivial fun v' h' tk' g' kp go po => ?_) hh (by (first | lia | omega)) (by (first | lia | omega))
      obtain ⟨b, t1, t2, rfl, hnl⟩ := po
      obtain ⟨hf, k', e⟩ := id hnl
      refine hQ₅ _ _ _ _ go kp ((Fresh.obj hf e).imp fun h e => ⟨_, b, by rw [List.getElem?_map, hn']; rfl, rfl, t1, t2, _, e, rfl, _, rfl⟩)
  · rw [List.size_toArray, hsz, ← List.length_map (f := moveOf)] at M
    exact M
/-- the ends of moves -/
theorem comp_ends {env : Env} {x1 x2 : Str} {p0 p1 p2 p3 pos : Pos} {k2 : Nat} {iter : Expr} {scope : Scope} {Q : Value → Shared → Prop} {prog : Program} (hh : A.handled = none)
    (hs : ∀ x, foldedSetIterable iter env x = pure x) (hclos : closureFor scope env = pure []) (hkind : scope.kind = .function) (hnames : ∀ x ∈ scope.names, x.2 = .local → scope.names.lookup x.1 = some .local) (hcell : ∀ y ∈ scope.names, y.2 ≠ .cell)
    (hx1 : scope.names.lookup x1 = some .local) (hx2 : scope.names.lookup x2 = some .local) (hne : x1 ≠ x2) (hd : (x2 == ("__debug__" : Str)) = false)
    (h : wpAny (model prog w) A (eval iter env) (fun x s₁ => ∃ l ms, x = .ref l ∧ MovesAt s₁.heap l ms ∧ ms.length ≤ 1000 ∧
      (∀ D h tk g, Kp s₁.heap h → GOk s₁.gens g → s₁.heap.get? D = none → Fresh s₁.heap h (Ints D (ms.map (·.2))) → Q (.ref D) { s₁ with heap := h, toks := tk, gens := g })) E s) :
    wpAny (model prog w) A (eval (.ListComp (.Name x2 p0) [⟨.Tuple [.Name x1 p1, .Name x2 p2] k2 p3, iter, [], 0⟩] scope pos) env) Q E s := by
  refine comp_list (cl := []) hh hs hclos hkind hnames hcell (wpAny_mono h (fun x s₁ h₁ => ?_) fun _ _ e => e)
  obtain ⟨l, ms, rfl, ⟨items, hl, hz, hp⟩, hlen, hQ⟩ := h₁
  refine ⟨l, items, rfl, hl, by (first | lia | omega), (fun i y _ => ∃ n t, (ms.map (·.2))[i]? = some n ∧ y = .int n t), fun C i v m₃ s₃ Q₃ E₃ hv hs₃ k hC hn hQ₃ => ?_, fun D h tk g kp go hD hM => ?_⟩
  · have hi : i < ms.length := by have := (Array.getElem?_eq_some_iff.mp hv).1; (first | lia | omega)
    obtain ⟨a, ha, t1, t2, hL⟩ := hp i ms[i] (List.getElem?_eq_getElem hi)
    rw [hv] at ha; cases ha
    refine turn_pair hh hkind hx1 hx2 hne hL hs₃ k hC hn hQ₃ fun m₄ s₄ hs₄ k₄ hn₄ h1 h2 Q₅ E₅ hQ₅ => ?_
    refine wpAny_Name (wpAny_loadName_local hkind (lookup_relabel_local hx2) hn₄ h2 ?_) hd
    exact hQ₅ _ _ _ _ (GOk.refl _) (fun _ _ e => e) (.of fun h => ⟨_, _, by rw [List.getElem?_map, List.getElem?_eq_getElem hi]; rfl, rfl⟩)
  · refine hQ D h tk g kp go hD (hM.imp fun h M => made_ints ?_)
    rw [hz, ← List.length_map (f := fun p : Int × Int => p.2)] at M
    exact M
set_option maxRecDepth 100000 in
set_option maxHeartbeats 8000000 in
theorem law_3 {Q : Flow → Shared → Prop} {a : Addr} {mv : List (Int × Int)} (X : (Mine.K2 w.params).In s₀.heap) (T : TopRead Mine.myView LS mg mb s₀.heap) (hh : A.handled = none)
    (Y : LawAt s₀ L cw tb m cv s) (hm : m (Str.ofString "moves") = some (.ref a)) (hl : MovesAt s.heap a mv) (hlen : mv.length ≤ 4)
    (next : ∀ s' m' t, LawAt s₀ L cw tb m' cv s' → m' (Str.ofString "whole") = some (.int (mv.map (·.2)).sum t) → (∀ x, x ≠ Str.ofString "whole" → m' x = m x) → Up (Own3 L cw) s.heap s'.heap →
      wpAny (model PySem.Challenge.rw_om0053_01.prog w) A (execs (lawBody.drop 4) (lawEnv L cd)) Q E s') :
    wpAny (model PySem.Challenge.rw_om0053_01.prog w) A (execs (lawBody.drop 3) (lawEnv L cd)) Q E s := by
  show wpAny _ _ (execs (_ :: lawBody.drop 4) _) _ _ _
  have X1 := Y.X X
  have T1 := Y.T T
  refine law_assign (φ := fun v h => ∃ t, v = .int (mv.map (·.2)).sum t) (fun Q' hQ => ?_) Y fun s' m' v Y' h1 h2 u k => ?_
  · refine Call_ (boot_name (w := w) (mg := mg) (mb := mb) rfl rfl rfl rfl X1 T1 rfl (no_sum _) boot_sum (by decide) ?_)
    refine PyProof.Rows.callWith_builtin1 (args_cons (comp_ends hh (fun _ => rfl) rfl rfl (by decide) (by decide) rfl rfl (by decide) (by decide) (law_ld Y hm ⟨a, mv, rfl, hl, by (first | lia | omega), fun D h tk g kp go hD hM => args_nil ?_⟩)))
    refine sum_ints hh (hM (fun _ => False) (fun _ z => z.elim)).here fun h2 tk2 t2 kp2 => ?_
    exact hQ _ _ _ _ (fun b o e => kp2 _ _ (kp _ _ e)) go (.of fun h => ⟨_, rfl⟩)
  · obtain ⟨t, rfl⟩ := k.here
    exact next s' m' t Y' h1 h2 u
end
end Mine

end
section
open PySem PySem.W PySem.Calls PyProof.Rows
set_option Elab.async false
set_option linter.unusedVariables false
namespace Mine
open PySem.W.X
noncomputable def lastP (W : Int) : Str := Txt.mul (Str.ofString ")") W ++ Txt.mul (Str.ofString "(") (-W)
noncomputable def ToldsAt (h : Heap) (tl : Addr) (qs : List (Str × Int × Int)) : Prop := ∃ vs : List Addr, h.IsList tl (vs.map Value.ref).toArray ∧ Tolds h vs qs
theorem made_tolds {D : Addr} {xs : List (Str × Int × Int)} {h : Heap} (M : Made D xs.length (fun i y h => ∃ p a, xs[i]? = some p ∧ y = .ref a ∧ Told h a p.1 p.2.1 p.2.2) h) : ToldsAt h D xs := by
  obtain ⟨ys, k, e, hl, hy⟩ := M
  obtain ⟨vs, hv⟩ : ∃ vs : List Addr, ys = vs.map Value.ref := by
    clear e
    induction ys generalizing xs with
    | nil => exact ⟨[], rfl⟩
    | cons y r ih => cases xs with
      | nil => cases hl
      | cons x xr =>
        obtain ⟨p, a, _, e2, _⟩ := hy 0 y rfl
        obtain ⟨vs, hv⟩ := ih (xs := xr) (by simpa using hl) fun i y e => hy (i + 1) y (by simpa using e)
        exact ⟨a :: vs, by rw [hv, e2]; rfl⟩
  subst hv
  refine ⟨vs, ⟨_, e, rfl, _, rfl⟩, by simpa using hl, fun i v p e1 e2 => ?_⟩
  obtain ⟨q, a, e3, e4, e5⟩ := hy i (.ref v) (by rw [List.getElem?_map, e1]; rfl)
  rw [e2] at e3; cases e3; cases e4
  exact e5
section
variable {w : World} {mg mb : Str → Option Value} {A : Around} {E : Value → Shared → Prop} {s₀ s : Shared} {L cw : Addr} {tb : Array Value} {m : Str → Option Value} {cv : Option Value} {cd : Value}
set_option maxRecDepth 100000 in
set_option maxHeartbeats 8000000 in
theorem law_4 {Q : Flow → Shared → Prop} {a : Addr} {xs : List Int} {W : Int} {tW : Tok} (X : (Mine.K2 w.params).In s₀.heap) (T : TopRead Mine.myView LS mg mb s₀.heap) (hh : A.handled = none) (hd : A.depth ≤ 640) (hu : A.units ≤ 4000)
    (Y : LawAt s₀ L cw tb m cv s) (hm : m (Str.ofString "modes") = some (.ref a)) (hl : Ints a xs s.heap) (hlen : xs.length ≤ 4) (hx : ∀ x ∈ xs, 0 ≤ x ∧ x < 65536) (hw : m (Str.ofString "whole") = some (.int W tW)) (hW : -100 ≤ W ∧ W ≤ 100)
    (next : ∀ s' m' b, LawAt s₀ L cw tb m' cv s' → m' (Str.ofString "pieces") = some (.ref b) → (∀ x, x ≠ Str.ofString "pieces" → m' x = m x) → Up (Own3 L cw) s.heap s'.heap → Kept (Own3 L cw) s'.heap (Strs b (xs.map pieceOf ++ [lastP W])) →
      wpAny (model PySem.Challenge.rw_om0053_01.prog w) A (execs (lawBody.drop 5) (lawEnv L cd)) Q E s') :
    wpAny (model PySem.Challenge.rw_om0053_01.prog w) A (execs (lawBody.drop 4) (lawEnv L cd)) Q E s := by
  show wpAny _ _ (execs (_ :: lawBody.drop 5) _) _ _ _
  have X1 := Y.X X
  have T1 := Y.T T
  refine law_assign (φ := fun v h => ∃ b, v = .ref b ∧ Strs b (xs.map pieceOf ++ [lastP W]) h) (fun Q' hQ => ?_) Y fun s' m' v Y' h1 h2 u k => ?_
  · obtain ⟨vs, hl, hi⟩ := hl
    have hsz : vs.length = xs.length := Ints.size hi
    refine wpAny_BinOp (comp_list (cl := []) hh (fun _ => rfl) rfl rfl (by decide) (by decide) (law_ld Y hm ⟨a, vs.toArray, rfl, hl, by rw [List.size_toArray]; (first | lia | omega),
      (fun i y _ => ∃ n t, (xs.map pieceOf)[i]? = some n ∧ y = .str n t), fun C i v m₃ s₃ Q₃ E₃ hv hs₃ k hC hn hQ₃ => ?_, fun D h tk g kp go hD hM => ?_⟩))
    · refine turn_name rfl rfl hs₃ k hC hn hQ₃ fun m₄ s₄ hs₄ k₄ hn₄ hx' Q₅ E₅ hQ₅ => ?_
      obtain ⟨n, t, rfl, hn'⟩ := hi.at i v (by simpa using hv)
      have X4 := X1.keeps k₄
      have T4 := T1.keeps k₄
      have hn2 := hx n (List.mem_of_getElem? hn')
      refine Call_ (Name_function_global rfl rfl (loadGlobal_global (mg := mg) T4.g (mg_of X4 T4.g (name103 _)) (callWith_K (K := Mine.K2 w.params) X4 (keep103 _) (args_cons (wpAny_Name (wpAny_loadName_local rfl rfl hn₄ hx' (args_nil ⟨X4, ?_⟩)) (by decide))))))
      refine AA_mono 17 (piece_spec w mg mb n t hn2.1 hn2.2 _ _ _ X4 T4 trivial fun v' h' tk' g' kp go po => ?_) hh (by (first | lia | omega)) (by (first | lia | omega))
      obtain ⟨t', rfl⟩ := po
      exact hQ₅ _ _ _ _ go kp (.of fun h => ⟨_, _, by rw [List.getElem?_map, hn']; rfl, rfl⟩)
    · have Y1 : LawAt s₀ L cw tb m cv { s with heap := h, toks := tk, gens := g } := Y.grow kp go
      have hM' : Strs D (xs.map pieceOf) h := by
        have := (hM (fun _ => False) (fun _ z => z.elim)).here
        rw [List.size_toArray, hsz, ← List.length_map (f := pieceOf)] at this
        exact made_strs this
      obtain ⟨ws, hlD, hiD⟩ := hM'
      refine List_ (spliced_more (wpAny_BinOp (wpAny_BinOp (wpAny_Constant_str (law_ld (Y1.grow' fun _ _ e => e) hw (SB.mul (mulOk_of 1 1000 (by decide) (by (first | lia | omega)) (by (first | lia | omega)) (by decide) (by decide)) fun t1 k1 => ?_))))))
      refine wpAny_BinOp (wpAny_Constant_str (wpAny_UnaryOp (law_ld (Y1.grow' fun _ _ e => e) hw (neg_int (SB.mul (mulOk_of 1 1000 (by decide) (by (first | lia | omega)) (by (first | lia | omega)) (by decide) (by decide)) fun t2 k2 => ?_)))))
      with_reducible refine PyProof.Rows.add_str (fun t3 k3 => spliced_none (wpAny_newList ?_)) ?_
      · have kp0 : ∀ (o : Obj), Kp h (h.push o) := fun o b x e => Heap.get?_push_of_some _ e
        refine add_listsH (vs := ws) (ws := [.str (lastP W) t3]) (isList_keep hlD (kp0 _)) ⟨_, Heap.get?_push_size _ rfl, rfl, _, rfl⟩ (by have := hiD.length; rw [List.length_map] at this; rw [this, sizeLine_eq]; simp; (first | lia | omega)) fun h5 D5 hf5 kp5 hD5 => ?_
        have kp5' : Kp _ h5 := kp5
        have k05 : Kp s.heap h5 := fun b o e => kp5' _ _ (kp0 _ _ _ (kp _ _ e))
        have hf0 : s.heap.get? D5 = none := none_of (fun b o e => kp0 _ _ _ (kp _ _ e)) hf5
        exact hQ _ _ _ _ k05 go ((Fresh.obj hf0 hD5).imp fun h e => ⟨D5, rfl, _, ⟨_, e, rfl, _, rfl⟩, strsAre_snoc hiD⟩)
      · have e1 := len_mul (Str.ofString ")") W
        have e2 := len_mul (Str.ofString "(") (-W)
        rw [sizeLine_eq]
        have c1 : (Str.ofString ")").length = 1 := by decide
        have c2 : (Str.ofString "(").length = 1 := by decide
        rw [c1] at e1; rw [c2] at e2
        split at e1 <;> split at e2 <;> (first | lia | omega)
  · obtain ⟨b, rfl, _⟩ := k.here
    exact next s' m' b Y' h1 h2 u (k.imp fun h ⟨b', e, hi⟩ => by cases e; exact hi)
end
end Mine

end
section
open PySem PySem.W PySem.Calls PyProof.Rows
set_option Elab.async false
set_option linter.unusedVariables false
namespace Mine
open PySem.W.X
section
variable {s₀ s : Shared} {L cw : Addr} {tb : Array Value} {m : Str → Option Value} {cv : Option Value} {h' : Heap}
theorem LawAt.list_off {a : Addr} {its : Array Value} (Y : LawAt s₀ L cw tb m cv s) (x : s.heap.IsList a its) : ¬ Own3 L cw a := fun z => by
  obtain ⟨o, e, _, n, hd⟩ := x
  rcases z with rfl | rfl | rfl
  · obtain ⟨o2, es, ep, e2, hd2, _⟩ := Y.ns; rw [e] at e2; cases e2; rw [hd] at hd2; cases hd2
  · obtain ⟨o2, e2, hd2⟩ := Y.cell; rw [e] at e2; cases e2; rw [hd] at hd2; cases hd2
  · have e2 := Y.tab; rw [e] at e2; cases e2; cases hd
theorem LawAt.list_up {a : Addr} {its : Array Value} (Y : LawAt s₀ L cw tb m cv s) (u : Up (Own3 L cw) s.heap h') (x : s.heap.IsList a its) : h'.IsList a its :=
  let ⟨o, e, r⟩ := x; ⟨o, u a o (Y.list_off x) e, r⟩
theorem LawAt.ints_up {a : Addr} {ns : List Int} (Y : LawAt s₀ L cw tb m cv s) (u : Up (Own3 L cw) s.heap h') (x : Ints a ns s.heap) : Ints a ns h' := let ⟨vs, e, r⟩ := x; ⟨vs, Y.list_up u e, r⟩
theorem LawAt.strs_up {a : Addr} {ns : List Str} (Y : LawAt s₀ L cw tb m cv s) (u : Up (Own3 L cw) s.heap h') (x : Strs a ns s.heap) : Strs a ns h' := let ⟨vs, e, r⟩ := x; ⟨vs, Y.list_up u e, r⟩
theorem LawAt.bools_up {a : Addr} {bs : List Bool} (Y : LawAt s₀ L cw tb m cv s) (u : Up (Own3 L cw) s.heap h') (x : Bools a bs s.heap) : Bools a bs h' := Y.list_up u x
theorem LawAt.moves_up {a : Addr} {ms : List (Int × Int)} (Y : LawAt s₀ L cw tb m cv s) (u : Up (Own3 L cw) s.heap h') (x : MovesAt s.heap a ms) : MovesAt h' a ms :=
  let ⟨items, e, hs, hp⟩ := x
  ⟨items, Y.list_up u e, hs, fun i p e => let ⟨a, e1, t1, t2, e2⟩ := hp i p e; ⟨a, e1, t1, t2, Y.list_up u e2⟩⟩
theorem LawAt.told_up {a : Addr} {p : Str} {lo en : Int} (Y : LawAt s₀ L cw tb m cv s) (u : Up (Own3 L cw) s.heap h') (x : Told s.heap a p lo en) : Told h' a p lo en :=
  let ⟨r, tp, t1, t2, a1, a2⟩ := x; ⟨r, tp, t1, t2, Y.list_up u a1, Y.list_up u a2⟩
theorem LawAt.tolds_up {a : Addr} {qs : List (Str × Int × Int)} (Y : LawAt s₀ L cw tb m cv s) (u : Up (Own3 L cw) s.heap h') (x : ToldsAt s.heap a qs) : ToldsAt h' a qs :=
  let ⟨vs, e, hl, hp⟩ := x
  ⟨vs, Y.list_up u e, hl, fun i v p e1 e2 => Y.told_up u (hp i v p e1 e2)⟩
end
theorem MovesAt.snoc {h' : Heap} {d a : Addr} {ms : List (Int × Int)} {items : List Value} {p : Int × Int} {n : Nat} (hs : items.length = ms.length) (hp : ∀ (i : Nat) (p : Int × Int), ms[i]? = some p → ∃ a, items[i]? = some (Value.ref a) ∧ L2 h' a p) (ha : L2 h' a p)
    (hd : h'.get? d = some (W.listOf (items ++ [Value.ref a]).toArray n)) : MovesAt h' d (ms ++ [p]) := by
  refine ⟨_, ⟨_, hd, rfl, _, rfl⟩, by simp [hs], fun i q e => ?_⟩
  rw [List.getElem?_toArray]
  by_cases hi : i < ms.length
  · rw [List.getElem?_append_left hi] at e
    rw [List.getElem?_append_left (by (first | lia | omega))]
    exact hp i q e
  · have := (List.getElem?_eq_some_iff.mp e).1
    have hi2 : i = ms.length := by simp at this; (first | lia | omega)
    subst hi2
    rw [List.getElem?_append_right (Nat.le_refl _), Nat.sub_self] at e
    rw [List.getElem?_append_right (by (first | lia | omega)), hs, Nat.sub_self]
    cases e
    exact ⟨a, rfl, ha⟩
section
variable {w : World} {mg mb : Str → Option Value} {A : Around} {E : Value → Shared → Prop} {s₀ s : Shared} {L cw : Addr} {tb : Array Value} {m : Str → Option Value} {cv : Option Value} {cd : Value}
set_option maxRecDepth 100000 in
set_option maxHeartbeats 8000000 in
theorem law_5 {Q : Flow → Shared → Prop} {a b : Addr} {ps : List Str} {mv : List (Int × Int)} {W : Int} {tW : Tok} (X : (Mine.K2 w.params).In s₀.heap) (T : TopRead Mine.myView LS mg mb s₀.heap) (hh : A.handled = none) (hd : A.depth ≤ 640) (hu : A.units ≤ 4000)
    (Y : LawAt s₀ L cw tb m cv s) (hc : (lawEnv L cd).cells.lookup (Str.ofString "ways") = some cw) (hm : m (Str.ofString "pieces") = some (.ref a)) (hl : Strs a ps s.heap) (hlen : ps.length ≤ 5) (hps : ∀ p ∈ ps, Asc p ∧ p.length ≤ 1000)
    (hmv : m (Str.ofString "moves") = some (.ref b)) (hmv' : MovesAt s.heap b mv) (hlen2 : mv.length ≤ 4) (hw : m (Str.ofString "whole") = some (.int W tW))
    (next : ∀ s' m' tl c, LawAt s₀ L cw tb m' (some (.ref c)) s' → m' (Str.ofString "told") = some (.ref tl) → (∀ x, x ≠ Str.ofString "told" → m' x = m x) → Up (Own3 L cw) s.heap s'.heap →
      ToldsAt s'.heap tl (ps.map fun p => (p, readOf p)) → MovesAt s'.heap c (mv ++ [(minOf 0 (-W), -W)]) →
      wpAny (model PySem.Challenge.rw_om0053_01.prog w) A (execs (lawBody.drop 6) (lawEnv L cd)) Q E s') :
    wpAny (model PySem.Challenge.rw_om0053_01.prog w) A (execs (lawBody.drop 5) (lawEnv L cd)) Q E s := by
  show wpAny _ _ (execs (_ :: lawBody.drop 6) _) _ _ _
  have X1 := Y.X X
  have T1 := Y.T T
  obtain ⟨vs, hl, hi⟩ := hl
  have hsz : vs.length = ps.length := hi.length
  with_reducible refine wpAny_execs_cons (PyProof.Rows.Assign_Tuple ?h ?hs ?hw)
  case hs => kernel_rfl
  case hw => kernel_rfl
  refine wpAny_Tuple_spliced ?_
  refine spliced_more (comp_list (cl := []) hh (fun _ => rfl) rfl rfl (by decide) (by decide) (law_ld Y hm ⟨a, vs.toArray, rfl, hl, by rw [List.size_toArray]; (first | lia | omega),
      (fun i y h => ∃ p a, (ps.map fun p => (p, readOf p))[i]? = some p ∧ y = .ref a ∧ Told h a p.1 p.2.1 p.2.2), fun C i v m₃ s₃ Q₃ E₃ hv hs₃ k hC hn hQ₃ => ?_, fun D h tk g kp go hD hM => ?_⟩))
  · refine turn_name rfl rfl hs₃ k hC hn hQ₃ fun m₄ s₄ hs₄ k₄ hn₄ hx' Q₅ E₅ hQ₅ => ?_
    obtain ⟨x, t, rfl, hn'⟩ := hi.item i v (by simpa using hv)
    have X4 := X1.keeps k₄
    have T4 := T1.keeps k₄
    have hp2 := hps x (List.mem_of_getElem? hn')
    refine List_ (spliced_more (wpAny_Name (wpAny_loadName_local rfl rfl hn₄ hx' (spliced_more (Call_ (Name_function_global rfl rfl (loadGlobal_global (mg := mg) T4.g (mg_of X4 T4.g (name115 _)) (callWith_K (K := Mine.K2 w.params) X4 (keep115 _) (args_cons (wpAny_Name (wpAny_loadName_local rfl rfl hn₄ hx' (args_nil ⟨X4, ?_⟩)) (by decide))))))))) (by decide)))
    refine AA_mono 18 (read_spec0 w mg mb _ _ _ x t X4 T4 hp2.1 hp2.2 fun r h5 tk5 g5 kp5 go5 hf5 hL5 => ?_) hh (by (first | lia | omega)) (by (first | lia | omega))
    refine spliced_none (wpAny_newList ?_)
    have kp0 : ∀ (o : Obj), Kp h5 (h5.push o) := fun o b x e => Heap.get?_push_of_some _ e
    have hfr : h5.get? h5.objs.size = none := get_size _
    refine hQ₅ _ _ _ _ go5 (fun b o e => kp0 _ _ _ (kp5 _ _ e)) ?_
    obtain ⟨t1, t2, hL⟩ := hL5
    have f1 := Fresh.list hf5 (isList_keep hL (kp0 { cls := .type "list", data := .seq [Value.str x t, Value.ref r].toArray }))
    have f2 : Fresh s₄.heap (h5.push { cls := .type "list", data := .seq [Value.str x t, Value.ref r].toArray }) _ := Fresh.obj (none_of kp5 hfr) (Heap.get?_push_size h5 (o := { cls := .type "list", data := .seq [Value.str x t, Value.ref r].toArray }) rfl)
    exact (f1.and f2).imp fun h ⟨a1, a2⟩ => ⟨(x, readOf x), _, by rw [List.getElem?_map, hn']; rfl, rfl, r, t, t1, t2, ⟨_, a2, rfl, _, rfl⟩, a1⟩
  · have Y1 : LawAt s₀ L cw tb m cv { s with heap := h, toks := tk, gens := g } := Y.grow kp go
    have hM' : ToldsAt h D (ps.map fun p => (p, readOf p)) := by
      have := (hM (fun _ => False) (fun _ z => z.elim)).here
      rw [List.size_toArray, hsz, ← List.length_map (f := fun p => (p, readOf p))] at this
      exact made_tolds this
    obtain ⟨items, hlm, hzm, hpm⟩ := hmv'
    refine spliced_more (wpAny_BinOp (law_ld Y1 hmv (List_ (spliced_more (List_ (spliced_more (Call_ (boot_name (w := w) (mg := mg) (mb := mb) rfl rfl rfl rfl (Y1.X X) (Y1.T T) rfl (no_min _) Boot.min (by decide) ?_))))))))
    refine PyProof.Rows.callWith_builtin1 (args_cons (wpAny_Constant_int (args_cons (wpAny_UnaryOp (law_ld (Y1.grow' fun _ _ e => e) hw (neg_int (args_nil ?_)))))))
    refine min_two_ints hh fun h2 tk2 kp2 => ?_
    have kp2' : Kp h h2 := kp2
    generalize hv : (if -W < 0 then Value.int (-W) _ else Value.int 0 _) = v
    have hv' : ∃ t, v = .int (minOf 0 (-W)) t := by
      subst hv; unfold minOf; split
      · exact ⟨_, rfl⟩
      · exact ⟨_, rfl⟩
    obtain ⟨tv, rfl⟩ := hv'
    clear hv
    refine spliced_more (wpAny_UnaryOp (law_ld (Y1.grow' kp2') hw (neg_int (spliced_none (wpAny_newList (spliced_none (wpAny_newList ?_)))))))
    generalize hh3 : h2.push _ = h3
    have kp3 : Kp h2 h3 := fun b o e => hh3 ▸ Heap.get?_push_of_some _ e
    have e3 : h3.get? h2.objs.size = some _ := hh3 ▸ Heap.get?_push_size h2 rfl
    have kp4 : ∀ (o : Obj), Kp h3 (h3.push o) := fun o b x e => Heap.get?_push_of_some _ e
    have k03 : Kp s.heap h3 := fun b o e => kp3 _ _ (kp2' _ _ (kp _ _ e))
    refine add_listsH (vs := items.toList) (ws := [.ref h2.objs.size]) (isList_keep hlm fun b o e => kp4 _ _ _ (k03 _ _ e)) ⟨_, Heap.get?_push_size _ rfl, rfl, _, rfl⟩ (by rw [Array.length_toList, hzm, sizeLine_eq]; simp; (first | lia | omega)) fun h5 D5 hf5 kp5 hD5 => ?_
    have kp5' : Kp _ h5 := kp5
    have k35 : Kp h3 h5 := fun b o e => kp5' _ _ (kp4 _ _ _ e)
    have k15 : Kp h h5 := fun b o e => k35 _ _ (kp3 _ _ (kp2' _ _ e))
    have k05 : Kp s.heap h5 := fun b o e => k15 _ _ (kp _ _ e)
    have mv5 : MovesAt h5 D5 (mv ++ [(minOf 0 (-W), -W)]) := by
      refine MovesAt.snoc (by rw [Array.length_toList, hzm]) (fun i p e => let ⟨a, e1, t1, t2, e2⟩ := hpm i p e; ⟨a, by rw [Array.getElem?_toList]; exact e1, t1, t2, isList_keep e2 k05⟩) ⟨_, _, _, k35 _ _ e3, rfl, _, rfl⟩ hD5
    have td5 : ToldsAt h5 D (ps.map fun p => (p, readOf p)) := by
      obtain ⟨vs', e, hl', hp'⟩ := hM'
      exact ⟨vs', isList_keep e k15, hl', fun i v p e1 e2 => (hp' i v p e1 e2).keep k15⟩
    refine spliced_none ⟨by rw [sizeLine_eq]; show 2 ≤ _; decide, ?_⟩
    have kp6 : ∀ (o : Obj), Kp h5 (h5.push o) := fun o b x e => Heap.get?_push_of_some _ e
    refine wpAny_assign_Tuple (items := #[.ref D, .ref D5]) hh ⟨_, Heap.get?_push_size _ rfl, rfl, 0, rfl⟩ rfl rfl fun h7 hx7 => ?_
    have k57 : Kp h5 h7 := fun b o e => by
      have e' := kp6 { cls := .type "tuple", data := .seq [Value.ref D, Value.ref D5].toArray } b o e
      exact hx7 b o (Nat.ne_of_lt (Heap.lt_size e')) e'
    have k07 : Kp s.heap h7 := fun b o e => k57 _ _ (k05 _ _ e)
    refine assignInOrder_cons (wpAny_assign_Name (law_store (Y.grow k07 go) fun h8 tk8 Y8 u8 => ?_))
    refine assignInOrder_cons (wpAny_assign_Name (law_storeCell Y8 hc fun h9 Y9 u9 => assignInOrder_nil ?_))
    have Y7 : LawAt s₀ L cw tb m cv { s with heap := h7, toks := tk, gens := g } := Y.grow k07 go
    have u79 : Up (Own3 L cw) h7 h9 := Up.trans u8 u9
    with_reducible refine next _ _ D D5 Y9 (if_pos rfl) (fun y hy => if_neg hy) ((Up.of_kp k07).trans u79) (Y7.tolds_up u79 ?_) (Y7.moves_up u79 (mv5.keep k57))
    obtain ⟨vs', e, hl', hp'⟩ := td5
    exact ⟨vs', isList_keep e k57, hl', fun i v p e1 e2 => (hp' i v p e1 e2).keep k57⟩
end
end Mine

end
section
open PySem PySem.W PySem.Calls PyProof.Rows
set_option Elab.async false
set_option linter.unusedVariables false
namespace Mine
open PySem.W.X
open PySem.SeqAt
theorem eqAt_L2 {A : Around} {s : Shared} {r a : Addr} {x y : Int} {t1 t2 t3 t4 : Tok} (l1 : s.heap.IsList r #[.int x t1, .int y t2]) (l2 : s.heap.IsList a #[.int x t3, .int y t4]) (hu : A.units < cLine) : EqAt A s (.ref r) (.ref a) true := by
  by_cases e : r = a
  · subst e; exact EqAt.same _
  · refine EqAt.of_refs e (RcAt.lists (e := fun _ => true) l1 l2 rfl hu fun j h1 h2 => ?_)
    have key : ∀ (n : Int) (t u : Tok), EqAt A.in1 s (.int n t) (.int n u) true := fun n t u => by
      have := EqAt.int_int (A := A.in1) (s := s) n t n u
      rwa [beq_self_eq_true] at this
    match j, h1 with
    | 0, _ => exact key _ _ _
    | 1, _ => exact key _ _ _
theorem MovesAt.take {h h' : Heap} {d : Addr} {ms : List (Int × Int)} {items : Array Value} {k n : Nat} (hs : items.size = ms.length) (hp : ∀ (i : Nat) (p : Int × Int), ms[i]? = some p → ∃ a, items[i]? = some (Value.ref a) ∧ L2 h a p) (kp : Kp h h')
    (hd : h'.get? d = some (W.listOf (items.toList.take k).toArray n)) : MovesAt h' d (ms.take k) := by
  refine ⟨_, ⟨_, hd, rfl, _, rfl⟩, by simp [hs], fun i p e => ?_⟩
  have hi : i < k := by have := (List.getElem?_eq_some_iff.mp e).1; rw [List.length_take] at this; (first | lia | omega)
  rw [List.getElem?_take_of_lt hi] at e
  obtain ⟨a, e1, t1, t2, e2⟩ := hp i p e
  exact ⟨a, by rw [List.getElem?_toArray, List.getElem?_take_of_lt hi, Array.getElem?_toList]; exact e1, t1, t2, isList_keep e2 kp⟩
noncomputable def heightsOf (ms : List (Int × Int)) : List Int := (List.range ms.length).map fun k => ((ms.take k).map (·.2)).sum + (ms.getD k default).1
section
variable {w : World} {mg mb : Str → Option Value} {A : Around} {E : Value → Shared → Prop} {s₀ s : Shared} {L cw : Addr} {tb : Array Value} {m : Str → Option Value} {cv : Option Value} {cd : Value}
set_option maxRecDepth 100000 in
set_option maxHeartbeats 8000000 in
theorem law_6 {Q : Flow → Shared → Prop} {tl c : Addr} {qs : List (Str × Int × Int)} {ms : List (Int × Int)} (hh : A.handled = none) (hu : A.units ≤ 4000)
    (Y : LawAt s₀ L cw tb m (some (.ref c)) s) (hc : (lawEnv L cd).cells.lookup (Str.ofString "ways") = some cw) (hm : m (Str.ofString "told") = some (.ref tl)) (hl : ToldsAt s.heap tl qs) (hmv : MovesAt s.heap c ms) (hlen : qs.length ≤ 5) (heq : qs.map (fun q => q.2) = ms)
    (next : ∀ s', LawAt s₀ L cw tb m (some (.ref c)) s' → Kp s.heap s'.heap → wpAny (model PySem.Challenge.rw_om0053_01.prog w) A (execs (lawBody.drop 7) (lawEnv L cd)) Q E s') :
    wpAny (model PySem.Challenge.rw_om0053_01.prog w) A (execs (lawBody.drop 6) (lawEnv L cd)) Q E s := by
  show wpAny _ _ (execs (_ :: lawBody.drop 7) _) _ _ _
  obtain ⟨vs, hl, hvl, hp⟩ := hl
  refine wpAny_execs_cons (wpAny_If (wpAny_isTrue_Compare1 (comp_list (cl := []) hh (fun _ => rfl) rfl rfl (by decide) (by decide) (law_ld Y hm ⟨tl, (vs.map Value.ref).toArray, rfl, hl, by rw [List.size_toArray, List.length_map]; (first | lia | omega),
      (fun i y _ => ∃ r q t1 t2, qs[i]? = some q ∧ y = .ref r ∧ s.heap.IsList r #[.int q.2.1 t1, .int q.2.2 t2]), fun C i v m₃ s₃ Q₃ E₃ hv hs₃ k hC hn hQ₃ => ?_, fun D h tk g kp go hD hM => ?_⟩))))
  · have hv' : (vs.map Value.ref)[i]? = some v := by simpa using hv
    rw [List.getElem?_map] at hv'
    obtain ⟨v, hv2, rfl⟩ := Option.map_eq_some_iff.mp hv'
    have hi : i < qs.length := by have := (List.getElem?_eq_some_iff.mp hv2).1; (first | lia | omega)
    obtain ⟨r, tp, t1, t2, a1, a2⟩ := hp i v qs[i] hv2 (List.getElem?_eq_getElem hi)
    refine turn_pair hh rfl rfl rfl (by decide) a1 hs₃ k hC hn hQ₃ fun m₄ s₄ hs₄ k₄ hn₄ h1 h2 Q₅ E₅ hQ₅ => ?_
    refine wpAny_Name (wpAny_loadName_local rfl rfl hn₄ h2 ?_) (by decide)
    exact hQ₅ _ _ _ _ (GOk.refl _) (fun _ _ e => e) (.of fun h => ⟨r, _, t1, t2, List.getElem?_eq_getElem hi, rfl, a2⟩)
  · have Y1 : LawAt s₀ L cw tb m (some (.ref c)) { s with heap := h, toks := tk, gens := g } := Y.grow kp go
    obtain ⟨ys, k, e, hyl, hy⟩ := (hM (fun _ => False) (fun _ z => z.elim)).here
    obtain ⟨items, lc, hz, hpm⟩ := hmv.keep kp
    have hql : qs.length = ms.length := by rw [← heq, List.length_map]
    have hyl' : ys.length = qs.length := by rw [hyl, List.size_toArray, List.length_map, hvl]
    refine law_ldCell Y1 hc ?_
    refine RcNeAt.lists (e := fun _ => true) (A := A) (s := { s with heap := h, toks := tk, gens := g }) ⟨_, e, rfl, _, rfl⟩ lc (by rw [List.size_toArray]; (first | lia | omega)) (Nat.lt_of_le_of_lt hu (by decide)) (fun j h1 h2 => ?_) _ _ _ _ (wpAny_truthy_bool ?_)
    · have hj : j < ys.length := by simpa using h1
      obtain ⟨r, q, t1, t2, e1, e2, e3⟩ := hy j ys[j] (List.getElem?_eq_getElem hj)
      have hmj : ms[j]? = some q.2 := by rw [← heq, List.getElem?_map, e1]; rfl
      obtain ⟨a, e4, t3, t4, e5⟩ := hpm j q.2 hmj
      have ea : ys.toArray[j] = .ref r := by simpa using e2
      have eb : items[j] = .ref a := by
        have := Array.getElem?_eq_getElem h2
        rw [e4] at this; exact (Option.some.inj this).symm
      rw [ea, eb]
      exact eqAt_L2 (isList_keep e3 kp) e5 (Nat.lt_of_le_of_lt (Nat.succ_le_succ hu) (by decide))
    · have : (!(List.range ys.toArray.size).all fun _ => true) = false := by simp
      rw [this]
      exact wpAny_execs_nil (next _ Y1 kp)
/-- ways[k][0] -/
theorem ev_way0 {Q : Value → Shared → Prop} {e : Env} {i : Nat} {ti : Tok} {a : Addr} {items : Array Value} {l : Addr} {prog : Program} {p1 p2 p3 p4 p5 : Pos} {kd : Nat} {p : Int × Int}
    (hk : e.scope.kind = .function) (hkm : e.kindOf (Str.ofString "ways") = some .cell) (hkk : e.kindOf (Str.ofString "k") = some .local) (hcm : e.cells.lookup (Str.ofString "ways") = some cw) (hc : s.heap.IsCell cw (some (.ref l)))
    (hn : s.heap.Ns e.locals m) (hm : m (Str.ofString "k") = some (.int i ti)) (hl : s.heap.IsList l items) (hx : items[i]? = some (.ref a)) (ha : L2 s.heap a p) (hi : i ≤ 1000)
    (h : ∀ t tk, Q (.int p.1 t) { s with toks := tk }) :
    wpAny (model prog w) A (eval (.Subscript (.Subscript (.Name (Str.ofString "ways") p1) (.Name (Str.ofString "k") p2) p3) (.Constant (.int 0) kd p4) p5) e) Q E s := by
  obtain ⟨t1, t2, ha⟩ := ha
  have ha' : ({ s with toks := s.toks + 1 } : Shared).heap.IsList a #[.int p.1 t1, .int p.2 t2] := ha
  refine Subscript_ (Subscript_ (wpAny_Name (wpAny_loadName_cell hk hkm hcm hc (wpAny_Name (wpAny_loadName_local hk hkk hn hm (tail_any (ops := [.ref l, .int i ti]) hl.typeIs slot_list_getitem.lookup (wpAny_getItem_list hl (Int.natCast_nonneg i) (by (first | lia | omega)) (x := .ref a) (by rw [Int.toNat_natCast]; exact hx) (wpAny_Constant_int (tail_any (ops := [.ref a, _]) ha'.typeIs slot_list_getitem.lookup ?_ (by with_unfolding_all rfl)))) (by with_unfolding_all rfl))) (by decide))) (by decide)))
  exact wpAny_getItem_list ha' (x := .int p.1 t1) (by decide) (by decide) rfl (h _ _)
set_option maxRecDepth 100000 in
set_option maxHeartbeats 8000000 in
theorem law_7 {Q : Flow → Shared → Prop} {c : Addr} {ms : List (Int × Int)} (X : (Mine.K2 w.params).In s₀.heap) (T : TopRead Mine.myView LS mg mb s₀.heap) (hh : A.handled = none)
    (Y : LawAt s₀ L cw tb m (some (.ref c)) s) (hc : (lawEnv L cd).cells.lookup (Str.ofString "ways") = some cw) (hcl : ∀ x y z, closureFor ⟨.function, [(Str.ofString ".0", .local), (Str.ofString "k", .local), (Str.ofString "sum", .globalImplicit), (Str.ofString "ways", .free)], x, y, z⟩ (lawEnv L cd) = pure [(Str.ofString "ways", cw)]) (hmv : MovesAt s.heap c ms) (hlen : ms.length ≤ 5)
    (next : ∀ s' m' b, LawAt s₀ L cw tb m' (some (.ref c)) s' → m' (Str.ofString "heights") = some (.ref b) → (∀ x, x ≠ Str.ofString "heights" → m' x = m x) → Up (Own3 L cw) s.heap s'.heap → Ints b (heightsOf ms) s'.heap →
      wpAny (model PySem.Challenge.rw_om0053_01.prog w) A (execs (lawBody.drop 8) (lawEnv L cd)) Q E s') :
    wpAny (model PySem.Challenge.rw_om0053_01.prog w) A (execs (lawBody.drop 7) (lawEnv L cd)) Q E s := by
  show wpAny _ _ (execs (_ :: lawBody.drop 8) _) _ _ _
  have X1 := Y.X X
  have T1 := Y.T T
  obtain ⟨items, lc, hz, hpm⟩ := hmv
  have hhl : (heightsOf ms).length = ms.length := by rw [heightsOf, List.length_map, List.length_range]
  with_reducible refine law_comp_walk (cl := [(Str.ofString "ways", cw)]) (φ := fun b h => Ints b (heightsOf ms) h) Y (fun _ => rfl) (hcl _ _ _) rfl (by decide) (by decide) rfl rfl ?_ fun s' m' D Y' h1 h2 u k => next s' m' D Y' h1 h2 u k.here
  refine Call_ (boot_name (w := w) (mg := mg) (mb := mb) rfl rfl rfl rfl X1 T1 rfl (no_range _) boot_range (by decide) ?_)
  refine Pv.callWith_type1 (args_cons (Call_ (boot_name (w := w) (mg := mg) (mb := mb) rfl rfl rfl rfl X1 T1 rfl (no_len _) boot_len (by decide) ?_)))
  refine PyProof.Rows.callWith_builtin1 (args_cons (law_ldCell Y hc (args_nil ?_)))
  refine call_len_list lc (by (first | lia | omega)) (args_nil (call_range_1 ?_))
  rw [hz]
  have kp0 : ∀ (o : Obj), Kp s.heap (s.heap.push o) := fun o b x e => Heap.get?_push_of_some _ e
  refine wpAny_pyIter_range (IsRange.new ..) ?small ?_
  case small =>
    match ms.length, hlen with
    | 0, _ | 1, _ | 2, _ | 3, _ | 4, _ | 5, _ => rfl
  generalize hh1 : s.heap.push _ = h1
  have kp1 : Kp s.heap h1 := fun b o e => hh1 ▸ Heap.get?_push_of_some _ e
  have hrs : Builtin.Range.rangeSize 0 (ms.length : Int) 1 = (ms.length : Int) := by
    match ms.length, hlen with
    | 0, _ | 1, _ | 2, _ | 3, _ | 4, _ | 5, _ => rfl
  rw [hrs]
  refine ⟨_, _, _, _, _, rfl, Walks.range hh _ 0 1 ms.length, by (first | lia | omega), fun i h st => ⟨_, st⟩, ?st, fun b hb => ?_, fun i s' v Q' E' _ h => letGo_name h, Y.grow' kp1, .of_kp kp1, fun b o e => Heap.get?_push_of_some _ e, get_size _, GOk.refl _, rfl, rfl,
    (fun i y _ => ∃ n t, (heightsOf ms)[i]? = some n ∧ y = .int n t), ?turn, fun D h M => made_ints (by rw [hhl]; exact M)⟩
  case st =>
    have z2 : ((ms.length : Int) - ((0 : Nat) : Int)) = (ms.length : Int) := by (first | lia | omega)
    rw [z2]
    exact Heap.get?_push_size _ rfl
  · rw [List.mem_singleton.mp hb]; show _ < (h1.push _).objs.size; rw [Heap.size_push]; exact Nat.lt_succ_self _
  case turn =>
    rintro C i v m₃ s₃ Q₃ E₃ hi ⟨t, rfl⟩ hs₃ k hC hn hQ₃
    have hv : (0 + (i : Int) * 1) = (i : Int) := by (first | lia | omega)
    rw [hv]
    refine turn_name (s₁ := { s with heap := h1, toks := s.toks + 1 + 1 + 1 + 1 }) rfl rfl (let ⟨h, tk, g, e, go⟩ := hs₃; ⟨h, tk, g, e, go⟩) (fun b o e => k b o e) hC hn hQ₃ fun m₄ s₄ hs₄ k₄ hn₄ hx Q₅ E₅ hQ₅ => ?_
    have k04 : Kp s.heap s₄.heap := fun b o e => k₄ _ _ (kp1 _ _ e)
    have X4 := X1.keeps k04
    have T4 := T1.keeps k04
    have cell4 := Y.cell.keeps k04
    obtain ⟨a, ha, hL⟩ := hpm i ms[i] (List.getElem?_eq_getElem hi)
    refine wpAny_BinOp (Call_ (boot_name (w := w) (mg := mg) (mb := mb) rfl rfl rfl rfl X4 T4 rfl (no_sum _) boot_sum (by decide) (PyProof.Rows.callWith_builtin1 (args_cons (comp_ends hh (fun _ => rfl) rfl rfl (by decide) (by decide) rfl rfl (by decide) (by decide) ?_)))))
    refine slice_new (wpAny_Name (wpAny_loadName_cell rfl rfl rfl cell4 (wpAny_evalPart_none (wpAny_evalPart_some (wpAny_Name (wpAny_loadName_local rfl rfl hn₄ hx ⟨c, items, none, some (i : Int), rfl, isList_keep lc k04, by rw [sizeLine_eq]; (first | lia | omega), .none, .int _ _, fun h5 D5 hf5 kp5 hD5 => ?_⟩) (by decide))))) (by decide))
    rw [pick_upto] at hD5
    have kp5' : Kp s₄.heap h5 := kp5
    refine ⟨D5, ms.take i, rfl, MovesAt.take hz hpm (fun b o e => kp5' _ _ (k04 _ _ e)) hD5, by rw [List.length_take]; (first | lia | omega), fun D6 h6 tk6 g6 kp6 go6 hD6 hM6 => args_nil ?_⟩
    have kp6' : Kp h5 h6 := kp6
    refine sum_ints hh (hM6 (fun _ => False) (fun _ z => z.elim)).here fun h7 tk7 t7 kp7 => ?_
    have kp7' : Kp h6 h7 := kp7
    have k47 : Kp s₄.heap h7 := fun b o e => kp7' _ _ (kp6' _ _ (kp5' _ _ e))
    obtain ⟨t1, t2, hL⟩ := hL
    refine ev_way0 (cw := cw) (l := c) (p := ms[i]) (i := i) rfl rfl rfl rfl (cell4.keeps k47) (Heap.Ns.keeps hn₄ k47) hx (isList_keep lc fun b o e => k47 _ _ (k04 _ _ e)) ha ⟨t1, t2, isList_keep hL fun b o e => k47 _ _ (k04 _ _ e)⟩ (by (first | lia | omega)) fun t tk => add_int ?_
    refine hQ₅ _ _ _ _ go6 k47 (.of fun h => ⟨_, _, ?_, rfl⟩)
    rw [heightsOf, List.getElem?_map, List.getElem?_range hi]
    simp [hi]
end
end Mine

end
section
open PySem PySem.W PySem.Calls PyProof.Rows
set_option Elab.async false
set_option linter.unusedVariables false
namespace Mine
open PySem.W.X
open PySem.SeqAt
section
variable {M : Model} {A : Around} {E : Value → Shared → Prop} {s : Shared} {env : Env}
theorem CallKw_ {func : Expr} {args : List Expr} {kws : List Keyword} {pos : Pos} {Q : Value → Shared → Prop}
    (h : wpAny M A (eval func env) (fun f s₁ => wpAny M A (callWith pos f [] (backTo pos (starEach args env)) (backToKw pos (keywordEach kws env))) Q E s₁) E s)
    (he : eval (.Call func args kws pos) env = (do callWith pos (← eval func env) [] (backTo pos (starEach args env)) (backToKw pos (keywordEach kws env))) := by rfl) :
    wpAny M A (eval (.Call func args kws pos) env) Q E s := by
  rw [he]; exact wpAny_bind h
end
noncomputable def keyOf (q : Str × Int × Int) : Int := (rankOf q.2.1 q.2.2).1 * 100000 + (rankOf q.2.1 q.2.2).2
noncomputable def orderOf (qs : List (Str × Int × Int)) : List Nat := (kRun (fun i j => decide (keyOf (qs.getD i default) < keyOf (qs.getD j default))) (kas_sort qs.length)).toList
noncomputable def sortedOf (qs : List (Str × Int × Int)) : List (Str × Int × Int) := (orderOf qs).map fun i => qs.getD i default
theorem order_ok {qs : List (Str × Int × Int)} (h3 : 3 ≤ qs.length) (h5 : qs.length ≤ 5) : (orderOf qs).Perm (List.range qs.length) ∧ (orderOf qs).Pairwise fun i j => keyOf (qs.getD i default) ≤ keyOf (qs.getD j default) :=
  kCheck_ok (key := fun i => keyOf (qs.getD i default)) (n := qs.length) _ [] [] (fun _ h => nomatch h) (fun _ h => nomatch h) (check_n h3 h5)
theorem turn_neg (a b : Int × Int) : turnOf a b < 0 ↔ (a.1 < b.1 ∨ a.1 = b.1 ∧ a.2 < b.2) := by
  unfold turnOf ltP
  by_cases h1 : a.1 < b.1 ∨ a.1 = b.1 ∧ a.2 < b.2
  · have h2 : ¬ (b.1 < a.1 ∨ b.1 = a.1 ∧ b.2 < a.2) := by (first | lia | omega)
    rw [decide_eq_true h1, decide_eq_false h2]; simp [h1]
  · rw [decide_eq_false h1]
    simp only [h1, iff_false, Bool.false_eq_true, if_false]
    split <;> (first | lia | omega)
theorem key_ok {qs : List (Str × Int × Int)} (hb : ∀ q ∈ qs, -1000 ≤ q.2.1 ∧ q.2.1 ≤ 0 ∧ -1000 ≤ q.2.2 ∧ q.2.2 ≤ 1000) {i j : Nat} (hi : i < qs.length) (hj : j < qs.length) : cmpAt qs i j = decide (keyOf (qs.getD i default) < keyOf (qs.getD j default)) := by
  have bi := hb (qs.getD i default) (by simp [hi])
  have bj := hb (qs.getD j default) (by simp [hj])
  unfold cmpAt rankAt keyOf
  generalize qs.getD i default = a at *
  generalize qs.getD j default = b at *
  obtain ⟨_, l1, e1⟩ := a
  obtain ⟨_, l2, e2⟩ := b
  dsimp only at *
  refine decide_eq_decide.mpr ((turn_neg _ _).trans ?_)
  unfold rankOf
  by_cases h1 : 0 ≤ e1 <;> by_cases h2 : 0 ≤ e2
  · rw [if_pos h1, if_pos h2]; dsimp only; (first | lia | omega)
  · rw [if_pos h1, if_neg h2]; dsimp only; (first | lia | omega)
  · rw [if_neg h1, if_pos h2]; dsimp only; (first | lia | omega)
  · rw [if_neg h1, if_neg h2]; dsimp only; (first | lia | omega)
section
variable {w : World} {mg mb : Str → Option Value} {A : Around} {E : Value → Shared → Prop} {s₀ s : Shared} {L cw : Addr} {tb : Array Value} {m : Str → Option Value} {cv : Option Value} {cd : Value}
theorem LawAt.off37 {h' : Heap} {tk : Nat} {tb' : Array Value} (x : LawAt s₀ L cw tb m cv s) (u : Up (fun b => b = 37) s.heap h') (ht : h'.get? 37 = some (tableObj tb')) : LawAt s₀ L cw tb' m cv { s with heap := h', toks := tk } :=
  ⟨x.keep.trans u, x.ns.at' fun o e => u _ o x.L37 e, let ⟨o, e, hd⟩ := x.cell; ⟨o, u _ o x.c37 e, hd⟩, x.fL, x.fc, x.ne, ht, x.gens, x.drawn, x.os⟩
set_option maxRecDepth 100000 in
set_option maxHeartbeats 8000000 in
theorem law_8 {Q : Flow → Shared → Prop} {tl : Addr} {qs : List (Str × Int × Int)} (X : (Mine.K2 w.params).In s₀.heap) (T : TopRead Mine.myView LS mg mb s₀.heap) (hh : A.handled = none) (hd : A.depth ≤ 640) (hu : A.units ≤ 4000)
    (Y : LawAt s₀ L cw #[] m cv s) (hm : m (Str.ofString "told") = some (.ref tl)) (hl : ToldsAt s.heap tl qs) (hq3 : 3 ≤ qs.length) (hq5 : qs.length ≤ 5)
    (hb : ∀ q ∈ qs, -1000 ≤ q.2.1 ∧ q.2.1 ≤ 0 ∧ -1000 ≤ q.2.2 ∧ q.2.2 ≤ 1000)
    (next : ∀ s' m' b tb', LawAt s₀ L cw tb' m' cv s' → m' (Str.ofString "row") = some (.ref b) → (∀ x, x ≠ Str.ofString "row" → m' x = m x) → Up (Own3 L cw) s.heap s'.heap → ToldsAt s'.heap b (sortedOf qs) →
      wpAny (model PySem.Challenge.rw_om0053_01.prog w) A (execs (lawBody.drop 9) (lawEnv L cd)) Q E s') :
    wpAny (model PySem.Challenge.rw_om0053_01.prog w) A (execs (lawBody.drop 8) (lawEnv L cd)) Q E s := by
  show wpAny _ _ (execs (_ :: lawBody.drop 9) _) _ _ _
  have X1 := Y.X X
  have T1 := Y.T T
  refine wpAny_execs_cons (wpAny_Assign_Name (CallKw_ (boot_name (w := w) (mg := mg) (mb := mb) rfl rfl rfl rfl X1 T1 rfl (no_sorted _) boot_sorted (by decide) ?_)))
  refine callWith_kw (args_cons (law_ld Y hm (args_nil (kws_cons (Call_ (Name_function_global rfl rfl (loadGlobal_global (mg := mg) T1.g (mg_of X1 T1.g (name42 _)) (callWith_K (K := Mine.K2 w.params) X1 (keep42 _) (args_cons (Name_function_global rfl rfl (loadGlobal_global (mg := mg) T1.g (mg_of X1 T1.g (name129 _)) (args_nil ⟨X1, ?_⟩))))))))))))
  refine AA_mono 12 (ctk0 w mg mb _ _ _ X1 T1 Y.tab fun a ns b f1 f2 c1 c2 cell h1 tk1 hk htab hK => kws_nil ?_) hh (by (first | lia | omega)) (by (first | lia | omega))
  obtain ⟨tb', htab⟩ := htab
  have u1 : Up (fun b => b = 37) s.heap h1 := hk
  have u1' : Up (Own3 L cw) s.heap h1 := fun b o hb e => u1 b o (fun z => hb (.inr (.inr z))) e
  have Y1 : LawAt s₀ L cw tb' m cv { s with heap := h1, toks := tk1 } := Y.off37 u1 htab
  obtain ⟨vs, hlv, hT⟩ := Y.tolds_up u1' hl
  have hvl : vs.length = qs.length := hT.1
  refine k_sorted (s := { s with heap := h1, toks := tk1 }) (ps := qs) (vs := vs) (key := fun i => keyOf (qs.getD i default)) (Y1.X X) (Y1.T T) hK hT hlv hh (by (first | lia | omega)) (by (first | lia | omega)) (by (first | lia | omega)) (by (first | lia | omega)) (fun i j hi hj => key_ok hb (by (first | lia | omega)) (by (first | lia | omega))) fun D h2 n tk2 g2 kp2 go2 hD hrow => ?_
  have Y2 : LawAt s₀ L cw tb' m cv { s with heap := h2, toks := tk2, gens := g2 } := Y1.grow kp2 go2
  have kp2' : Kp h1 h2 := kp2
  refine law_store Y2 fun h3 tk3 Y3 u3 => ?_
  with_reducible refine next _ _ D tb' Y3 (if_pos rfl) (fun y hy => if_neg hy) ((Up.trans u1' (.of_kp kp2')).trans u3) (Y2.tolds_up u3 ?_)
  rw [hvl] at hrow
  have hin : ∀ i ∈ orderOf qs, i < qs.length := fun i hi => List.mem_range.mp ((order_ok hq3 hq5).1.mem_iff.mp hi)
  refine ⟨(orderOf qs).map fun i => vs.getD i 0, ⟨_, hrow, rfl, n, ?_⟩, by rw [sortedOf, List.length_map, List.length_map], fun i v p e1 e2 => ?_⟩
  · rw [List.map_map]; rfl
  · rw [List.getElem?_map] at e1
    rw [sortedOf, List.getElem?_map] at e2
    obtain ⟨j, hj, rfl⟩ := Option.map_eq_some_iff.mp e1
    rw [hj] at e2
    cases e2
    have hjn := hin j (List.mem_of_getElem? hj)
    exact (hT.2 j _ _ (by simp [hvl, hjn]) (by simp [hjn])).keep kp2'
set_option maxRecDepth 100000 in
set_option maxHeartbeats 8000000 in
theorem law_9 {Q : Flow → Shared → Prop} {a b : Addr} {ps : List Str} {qs : List (Str × Int × Int)} (hh : A.handled = none)
    (Y : LawAt s₀ L cw tb m cv s) (hm : m (Str.ofString "pieces") = some (.ref a)) (hl : Strs a ps s.heap) (hps : ∀ p ∈ ps, p.length ≤ 1000) (hpl : ps.length ≤ 5)
    (hm2 : m (Str.ofString "row") = some (.ref b)) (hl2 : ToldsAt s.heap b qs) (hqs : ∀ q ∈ qs, q.1.length ≤ 1000) (hql : qs.length ≤ 5)
    (next : ∀ s' m' t u, LawAt s₀ L cw tb m' cv s' → m' (Str.ofString "text") = some (.str (Txt.join (Str.ofString "") ps) t) → m' (Str.ofString "best") = some (.str (Txt.join (Str.ofString "") (qs.map (·.1))) u) → (∀ x, x ≠ Str.ofString "text" → x ≠ Str.ofString "best" → m' x = m x) → Up (Own3 L cw) s.heap s'.heap →
      wpAny (model PySem.Challenge.rw_om0053_01.prog w) A (execs (lawBody.drop 10) (lawEnv L cd)) Q E s') :
    wpAny (model PySem.Challenge.rw_om0053_01.prog w) A (execs (lawBody.drop 9) (lawEnv L cd)) Q E s := by
  show wpAny _ _ (execs (_ :: lawBody.drop 10) _) _ _ _
  have c0 : (Str.ofString "").length = 0 := by decide
  refine wpAny_execs_cons ?_
  refine (Assign_Tuple_swapped (names := [Str.ofString "text", Str.ofString "best"]) ?h ?hs ?hw)
  case hs => rfl
  case hw => rfl
  obtain ⟨vs, hl, hi⟩ := hl
  refine wpAny_Tuple_spliced ?_
  refine spliced_more ?_
  refine MethodCall_ ?_
  refine wpAny_Constant_str ?_
  with_reducible refine GM.join ?_
  refine callWith_method1 ?_
  refine args_cons ?_
  refine law_ld (Y.grow' fun _ _ e => e) hm (args_nil ?_)
  refine join_list (items := vs.toArray) (ys := ps) hl hi ?_ fun t1 k1 => ?_
  · rw [c0]; have := join_sum ps hps (by (first | lia | omega)); (first | lia | omega)
  obtain ⟨vs2, hl2, hvl, hp⟩ := hl2
  refine spliced_more ?_
  refine MethodCall_ ?_
  refine wpAny_Constant_str ?_
  with_reducible refine GM.join ?_
  refine callWith_method1 ?_
  refine args_cons ?_
  refine (comp_list (cl := []) hh (fun _ => rfl) rfl rfl (by decide) (by decide) (law_ld (Y.grow' fun _ _ e => e) hm2 ⟨b, (vs2.map Value.ref).toArray, rfl, hl2, by rw [List.size_toArray, List.length_map]; (first | lia | omega),
      (fun i y _ => ∃ n t, (qs.map (·.1))[i]? = some n ∧ y = .str n t), fun C i v m₃ s₃ Q₃ E₃ hv hs₃ k hC hn hQ₃ => ?_, fun D h tk g kp go hD hM => args_nil ?_⟩))
  · have hv' : (vs2.map Value.ref)[i]? = some v := by simpa using hv
    rw [List.getElem?_map] at hv'
    obtain ⟨v, hv2, rfl⟩ := Option.map_eq_some_iff.mp hv'
    have hi : i < qs.length := by have := (List.getElem?_eq_some_iff.mp hv2).1; (first | lia | omega)
    obtain ⟨r, tp, t1, t2, a1, a2⟩ := hp i v qs[i] hv2 (List.getElem?_eq_getElem hi)
    refine turn_pair hh rfl rfl rfl (by decide) a1 hs₃ k hC hn hQ₃ fun m₄ s₄ hs₄ k₄ hn₄ h1 h2 Q₅ E₅ hQ₅ => ?_
    refine wpAny_Name (wpAny_loadName_local rfl rfl hn₄ h1 ?_) (by decide)
    exact hQ₅ _ _ _ _ (GOk.refl _) (fun _ _ e => e) (.of fun h => ⟨_, _, by rw [List.getElem?_map, List.getElem?_eq_getElem hi]; rfl, rfl⟩)
  · have hM' : Strs D (qs.map (·.1)) h := by
      have := (hM (fun _ => False) (fun _ z => z.elim)).here
      rw [List.size_toArray, List.length_map, hvl, ← List.length_map (f := fun q : Str × Int × Int => q.1)] at this
      exact made_strs this
    obtain ⟨ws, hw, hi2⟩ := hM'
    have kp' : Kp s.heap h := kp
    refine join_list (items := ws.toArray) (ys := qs.map (·.1)) hw hi2 ?_ fun t2 k2 => ?_
    · rw [c0]
      have := join_sum (qs.map (·.1)) (fun p hp => by obtain ⟨q, hq, rfl⟩ := List.mem_map.mp hp; exact hqs q hq) (by rw [List.length_map]; (first | lia | omega))
      (first | lia | omega)
    refine spliced_none ⟨by rw [sizeLine_eq]; show 2 ≤ _; decide, ?_⟩
    have kp6 : ∀ (o : Obj), Kp h (h.push o) := fun o b x e => Heap.get?_push_of_some _ e
    refine wpAny_unpackItems_tuple (items := #[.str _ t1, .str _ t2]) hh ⟨_, Heap.get?_push_size _ rfl, rfl, 0, rfl⟩ fun h7 hx7 => ?_
    have k07 : Kp s.heap h7 := fun b o e => by
      have e' := kp6 { cls := .type "tuple", data := .seq [Value.str (Txt.join (Str.ofString "") ps) t1, Value.str (Txt.join (Str.ofString "") (qs.map (·.1))) t2].toArray } b o (kp' _ _ e)
      exact hx7 b o (Nat.ne_of_lt (Heap.lt_size e')) e'
    refine assignInOrder_cons (bindName_ (law_store (Y.grow k07 go) fun h8 tk8 Y8 u8 => ?_))
    refine assignInOrder_cons (bindName_ (law_store Y8 fun h9 tk9 Y9 u9 => assignInOrder_nil ?_))
    refine next _ _ t1 t2 Y9 (if_pos rfl) ((if_neg (by decide)).trans (if_pos rfl)) (fun y hy1 hy2 => (if_neg hy1).trans (if_neg hy2)) ((Up.of_kp k07).trans (Up.trans u8 u9))
end
end Mine

end
section
open PySem PySem.W PySem.Calls PyProof.Rows
set_option Elab.async false
set_option linter.unusedVariables false
namespace Mine
open PySem.W.X
open PySem.SeqAt
theorem pick_init (items : Array Value) : slicePick items none (some (-1)) none = (items.toList.take (items.size - 1)).toArray := by
  have e : sliceBounds none (some (-1)) none items.size = (((0 : Nat) : Int), ((items.size - 1 : Nat) : Int), 1) := by
    simp only [sliceBounds, Option.getD_none, show (1 : Int) > 0 by decide, if_true, if_pos (show ((-1 : Int) < 0) by decide)]
    congr 1
    congr 1
    (first | lia | omega)
  rw [kmk_pick_nat _ e, List.drop_zero, Nat.sub_zero]
section
variable {w : World} {mg mb : Str → Option Value} {A : Around} {E : Value → Shared → Prop} {s₀ s : Shared} {L cw : Addr} {tb : Array Value} {m : Str → Option Value} {cv : Option Value} {cd : Value}
theorem min_ints {l : Addr} {ns : List Int} {Q : Value → Shared → Prop} {prog : Program} (hh : A.handled = none) (hl : Ints l ns s.heap) (hne : 0 < ns.length)
    (h : ∀ h' M tk t, Kp s.heap h' → M ∈ ns → (∀ a ∈ ns, M ≤ a) → Q (.int M t) { s with heap := h', toks := tk }) : wpAny (model prog w) A (call (.builtin "min") [.ref l]) Q E s := by
  obtain ⟨vs, hl, hi⟩ := hl
  obtain ⟨xs, e⟩ := hi.allInts.items
  have hns : ns = xs.toList.map (·.1) := by rw [← hi.numsOf, ← nums_intItems, ← e]
  have hsz : 0 < xs.size := by
    have h3 := hne; rw [hns, List.length_map, Array.length_toList] at h3; exact h3
  rw [e] at hl
  refine min_intList hh hl hsz fun v h' tk hv hk => ?_
  obtain ⟨t, rfl⟩ := intItems_at hv
  obtain ⟨h1, h2⟩ := argBest_lt (numAt xs) (xs.size - 1)
  refine h _ _ tk t hk ?_ fun a ha => ?_
  · rw [hns, numAt_eq]; exact getD_mem (by rw [List.length_map, Array.length_toList]; (first | lia | omega))
  · rw [hns] at ha
    obtain ⟨j, hj, rfl⟩ := mem_getD ha
    rw [List.length_map, Array.length_toList] at hj
    rw [← numAt_eq]; exact h2 j (by (first | lia | omega))
/-- _check_parenthesis(one) for one of a list of texts -/
theorem elt_check {p0 p1 p2 : Pos} {env : Env} {C : Addr} {scope : Scope} {xs : List Str} {i : Nat} {v : Value} {vs : List Value} {s₁ s₄ : Shared} {m' : Str → Option Value} (X : (Mine.K2 w.params).In s₄.heap) (T : TopRead Mine.myView LS mg mb s₄.heap) (hh : A.handled = none) (hd : A.depth ≤ 640) (hu : A.units ≤ 4000)
    (hi : StrsAre vs xs) (hv : vs[i]? = some v) (hx : ∀ x ∈ xs, Asc x ∧ x.length ≤ 1000) (hkind : scope.kind = .function) (hl : scope.names.lookup (Str.ofString "one") = some .local) (hg : (compEnvC scope [] C env).kindOf (Str.ofString "_check_parenthesis") = some .globalImplicit) (hgl : env.globals = mainGlobals)
    (hn : s₄.heap.Ns C m') (hm : m' (Str.ofString "one") = some v) :
    Elt PySem.Challenge.rw_om0053_01.prog w A (compEnvC scope [] C env) (.Call (.Name (Str.ofString "_check_parenthesis") p0) [.Name (Str.ofString "one") p1] [] p2) s₁.heap s₁ (fun y _ => ∃ n, (xs.map checkOf)[i]? = some n ∧ y = .bool n) m' s₄ := by
  intro Q' E' hQ
  obtain ⟨x, t, rfl, hn'⟩ := hi.item i v hv
  have hp2 := hx x (List.mem_of_getElem? hn')
  refine Call_ (Name_function_global hkind hg (loadGlobal_global (mg := mg) (by show s₄.heap.Ns env.globals mg; rw [hgl]; exact T.g) (mg_of X T.g (name35 _)) (callWith_K (K := Mine.K2 w.params) X (keep35 _) (args_cons (wpAny_Name (wpAny_loadName_local hkind (lookup_relabel_local hl) hn hm (args_nil ⟨X, ?_⟩)) (by decide))))))
  refine AA_mono 22 (check_spec w mg mb x t hp2.1 hp2.2 _ _ _ X T trivial fun v' h' tk' g' kp go po => ?_) hh (by (first | lia | omega)) (by (first | lia | omega))
  obtain rfl := po
  exact hQ _ _ _ _ go kp (.of fun h => ⟨_, by rw [List.getElem?_map, hn']; rfl, rfl⟩)
theorem add_len {x y : Str} (hx : x.length ≤ 1000) (hy : y.length ≤ 1000) : x.length + y.length ≤ sizeLine := by rw [sizeLine_eq]; (first | lia | omega)
set_option maxRecDepth 100000 in
set_option maxHeartbeats 8000000 in
theorem law_10 {Q : Flow → Shared → Prop} {a : Addr} {ps : List Str} {x y : Str} {tx ty : Tok} (X : (Mine.K2 w.params).In s₀.heap) (T : TopRead Mine.myView LS mg mb s₀.heap) (hh : A.handled = none) (hd : A.depth ≤ 640) (hu : A.units ≤ 4000)
    (Y : LawAt s₀ L cw tb m cv s) (hm : m (Str.ofString "pieces") = some (.ref a)) (hl : Strs a ps s.heap) (hps : ∀ p ∈ ps, p.length ≤ 1000) (hpl : ps.length ≤ 5)
    (hmx : m (Str.ofString "text") = some (.str x tx)) (hmy : m (Str.ofString "best") = some (.str y ty)) (hxl : x.length ≤ 900) (hyl : y.length ≤ 900) {xs : List Str}
    (hxs : xs = [x, Str.ofString "(" ++ x ++ Str.ofString ")", Txt.join (Str.ofString "") (ps.take (ps.length - 1)), y, Str.ofString "(" ++ y]) (hx : ∀ x ∈ xs, Asc x ∧ x.length ≤ 1000)
    (next : ∀ s' m' b, LawAt s₀ L cw tb m' cv s' → m' (Str.ofString "asked") = some (.ref b) → (∀ x, x ≠ Str.ofString "asked" → m' x = m x) → Up (Own3 L cw) s.heap s'.heap → Bools b (xs.map checkOf) s'.heap →
      wpAny (model PySem.Challenge.rw_om0053_01.prog w) A (execs (lawBody.drop 11) (lawEnv L cd)) Q E s') :
    wpAny (model PySem.Challenge.rw_om0053_01.prog w) A (execs (lawBody.drop 10) (lawEnv L cd)) Q E s := by
  show wpAny _ _ (execs (_ :: lawBody.drop 11) _) _ _ _
  have X1 := Y.X X
  have T1 := Y.T T
  have c0 : (Str.ofString "").length = 0 := by decide
  have c1 : (Str.ofString "(").length = 1 := by decide
  have c2 : (Str.ofString ")").length = 1 := by decide
  with_reducible refine law_comp (cl := []) (φ := fun b h => Bools b (xs.map checkOf) h) hh Y (fun _ => rfl) rfl rfl (by decide) (by decide) rfl rfl ?_ fun s' m' D Y' h1 h2 u k => next s' m' D Y' h1 h2 u k.here
  obtain ⟨vs, hl, hi⟩ := hl
  refine List_ (spliced_more (law_ld Y hmx (spliced_more (wpAny_BinOp (wpAny_BinOp (wpAny_Constant_str (law_ld (Y.grow' fun _ _ e => e) hmx (PyProof.Rows.add_str (fun t1 k1 => wpAny_Constant_str (PyProof.Rows.add_str (fun t2 k2 => ?_) ?_)) ?_))))))))
  rotate_left 1
  · rw [Str.length_append, c1, c2, sizeLine_eq]; (first | lia | omega)
  · rw [c1, sizeLine_eq]; (first | lia | omega)
  refine spliced_more ?_
  refine MethodCall_ ?_
  refine wpAny_Constant_str ?_
  with_reducible refine GM.join ?_
  refine callWith_method1 ?_
  refine args_cons ?_
  refine (slice_new (law_ld (Y.grow' fun _ _ e => e) hm (wpAny_evalPart_none (wpAny_evalPart_some (wpAny_UnaryOp (wpAny_Constant_int (neg_int ⟨a, vs.toArray, none, some (-1), rfl, hl, by rw [List.size_toArray, hi.length, sizeLine_eq]; (first | lia | omega), .none, .int _ _, fun h1 D1 hf1 kp1 hD1 => args_nil ?_⟩)))))))
  rw [pick_init] at hD1
  have kp1' : Kp s.heap h1 := kp1
  have hi1 : StrsAre (vs.take (ps.length - 1)) (ps.take (ps.length - 1)) := hi.take' _
  have ez : (vs.toArray.toList.take (vs.toArray.size - 1)) = vs.take (ps.length - 1) := by rw [List.size_toArray, hi.length]
  rw [ez] at hD1
  refine join_list (items := (vs.take (ps.length - 1)).toArray) (ys := ps.take (ps.length - 1)) ⟨_, hD1, rfl, _, rfl⟩ hi1 ?_ fun t3 k3 => ?_
  · rw [c0]
    have := join_sum (ps.take (ps.length - 1)) (fun p hp => hps p (List.mem_of_mem_take hp)) (by rw [List.length_take]; (first | lia | omega))
    (first | lia | omega)
  have Y1 : ∀ tk, LawAt s₀ L cw tb m cv { s with heap := h1, toks := tk } := fun tk => Y.grow' kp1'
  refine spliced_more (law_ld (Y1 _) hmy (spliced_more (wpAny_BinOp (wpAny_Constant_str (law_ld (Y1 _) hmy (PyProof.Rows.add_str (fun t4 k4 => spliced_none (wpAny_newList ?_)) ?_))))))
  rotate_left 1
  · rw [c1, sizeLine_eq]; (first | lia | omega)
  have hi5 : StrsAre [.str x tx, .str (Str.ofString "(" ++ x ++ Str.ofString ")") t2, .str (Txt.join (Str.ofString "") (ps.take (ps.length - 1))) t3, .str y ty, .str (Str.ofString "(" ++ y) t4] xs := by
    rw [hxs]; exact .cons _ _ (.cons _ _ (.cons _ _ (.cons _ _ (.cons _ _ .nil))))
  have kp2 : ∀ (o : Obj), Kp s.heap (h1.push o) := fun o b x e => Heap.get?_push_of_some _ (kp1' _ _ e)
  refine ⟨_, _, rfl, ⟨_, Heap.get?_push_size _ rfl, rfl, _, rfl⟩, by show 5 ≤ _; (first | lia | omega), Y.grow' (kp2 _), .of_kp (kp2 _), (fun i y _ => ∃ n, (xs.map checkOf)[i]? = some n ∧ y = .bool n), fun C i v m₃ s₃ Q₃ E₃ hv hs₃ k hC hn hQ₃ => ?_, fun D h M => made_bools (by have e : (xs.map checkOf).length = 5 := by { rw [hxs]; rfl }; rw [e]; exact M)⟩
  refine turn_name rfl rfl hs₃ k hC hn hQ₃ fun m₄ s₄ hs₄ k₄ hn₄ hx' => ?_
  have k04 : Kp s.heap s₄.heap := fun b o e => k₄ _ _ (kp2 _ _ _ e)
  exact elt_check (X1.keeps k04) (T1.keeps k04) hh hd hu hi5 (by simpa using hv) hx rfl rfl rfl rfl hn₄ hx'
end
end Mine

end
section
open PySem PySem.W PySem.Calls PyProof.Rows
set_option Elab.async false
set_option linter.unusedVariables false
namespace Mine
open PySem.W.X
open PySem.SeqAt
section
variable {w : World} {mg mb : Str → Option Value} {A : Around} {E : Value → Shared → Prop} {s₀ s : Shared} {L cw : Addr} {tb : Array Value} {m : Str → Option Value} {cv : Option Value} {cd : Value}
set_option maxRecDepth 100000 in
set_option maxHeartbeats 8000000 in
theorem law_11 {Q : Flow → Shared → Prop} {x y : Str} {tx ty : Tok} (X : (Mine.K2 w.params).In s₀.heap) (T : TopRead Mine.myView LS mg mb s₀.heap) (hh : A.handled = none) (hd : A.depth ≤ 640) (hu : A.units ≤ 4000)
    (Y : LawAt s₀ L cw tb m cv s)
    (hmx : m (Str.ofString "text") = some (.str x tx)) (hmy : m (Str.ofString "best") = some (.str y ty)) (hxl : x.length ≤ 900) (hyl : y.length ≤ 900) {xs : List Str}
    (hxs : xs = [x ++ Str.ofString "\\", y ++ Str.ofString "\\", y ++ Str.ofString "\"()", y ++ Str.ofString "\"("]) (hx : ∀ x ∈ xs, Asc x ∧ x.length ≤ 1000)
    (next : ∀ s' m' b, LawAt s₀ L cw tb m' cv s' → m' (Str.ofString "more") = some (.ref b) → (∀ x, x ≠ Str.ofString "more" → m' x = m x) → Up (Own3 L cw) s.heap s'.heap → Bools b (xs.map checkOf) s'.heap →
      wpAny (model PySem.Challenge.rw_om0053_01.prog w) A (execs (lawBody.drop 12) (lawEnv L cd)) Q E s') :
    wpAny (model PySem.Challenge.rw_om0053_01.prog w) A (execs (lawBody.drop 11) (lawEnv L cd)) Q E s := by
  show wpAny _ _ (execs (_ :: lawBody.drop 12) _) _ _ _
  have X1 := Y.X X
  have T1 := Y.T T
  have c1 : (Str.ofString "\\").length = 1 := by decide
  have c2 : (Str.ofString "\"()").length = 3 := by decide
  have c3 : (Str.ofString "\"(").length = 2 := by decide
  have Y1 : ∀ tk, LawAt s₀ L cw tb m cv { s with toks := tk } := fun tk => Y.grow' fun _ _ e => e
  with_reducible refine law_comp (cl := []) (φ := fun b h => Bools b (xs.map checkOf) h) hh Y (fun _ => rfl) rfl rfl (by decide) (by decide) rfl rfl ?_ fun s' m' D Y' h1 h2 u k => next s' m' D Y' h1 h2 u k.here
  refine List_ (spliced_more (wpAny_BinOp (law_ld Y hmx (wpAny_Constant_str (PyProof.Rows.add_str (fun t1 k1 => ?_) (by rw [c1, sizeLine_eq]; (first | lia | omega)))))))
  refine spliced_more (wpAny_BinOp (law_ld (Y1 _) hmy (wpAny_Constant_str (PyProof.Rows.add_str (fun t2 k2 => ?_) (by rw [c1, sizeLine_eq]; (first | lia | omega))))))
  refine spliced_more (wpAny_BinOp (law_ld (Y1 _) hmy (wpAny_Constant_str (PyProof.Rows.add_str (fun t3 k3 => ?_) (by rw [c2, sizeLine_eq]; (first | lia | omega))))))
  refine spliced_more (wpAny_BinOp (law_ld (Y1 _) hmy (wpAny_Constant_str (PyProof.Rows.add_str (fun t4 k4 => spliced_none (wpAny_newList ?_)) (by rw [c3, sizeLine_eq]; (first | lia | omega))))))
  have hi5 : StrsAre [.str (x ++ Str.ofString "\\") t1, .str (y ++ Str.ofString "\\") t2, .str (y ++ Str.ofString "\"()") t3, .str (y ++ Str.ofString "\"(") t4] xs := by
    rw [hxs]; exact .cons _ _ (.cons _ _ (.cons _ _ (.cons _ _ .nil)))
  have kp2 : ∀ (o : Obj), Kp s.heap (s.heap.push o) := fun o b x e => Heap.get?_push_of_some _ e
  refine ⟨_, _, rfl, ⟨_, Heap.get?_push_size _ rfl, rfl, _, rfl⟩, by show 4 ≤ _; (first | lia | omega), Y.grow' (kp2 _), .of_kp (kp2 _), (fun i y _ => ∃ n, (xs.map checkOf)[i]? = some n ∧ y = .bool n), fun C i v m₃ s₃ Q₃ E₃ hv hs₃ k hC hn hQ₃ => ?_, fun D h M => made_bools (by have e : (xs.map checkOf).length = 4 := by { rw [hxs]; rfl }; rw [e]; exact M)⟩
  refine turn_name rfl rfl hs₃ k hC hn hQ₃ fun m₄ s₄ hs₄ k₄ hn₄ hx' => ?_
  have k04 : Kp s.heap s₄.heap := fun b o e => k₄ _ _ (kp2 _ _ _ e)
  exact elt_check (X1.keeps k04) (T1.keeps k04) hh hd hu hi5 (by simpa using hv) hx rfl rfl rfl rfl hn₄ hx'
set_option maxRecDepth 100000 in
set_option maxHeartbeats 8000000 in
theorem law_12 {Q : Flow → Shared → Prop} {a c : Addr} {hs : List Int} {ms : List (Int × Int)} (X : (Mine.K2 w.params).In s₀.heap) (T : TopRead Mine.myView LS mg mb s₀.heap) (hh : A.handled = none) (hd : A.depth ≤ 640) (hu : A.units ≤ 4000)
    (Y : LawAt s₀ L cw tb m (some (.ref c)) s) (hc : (lawEnv L cd).cells.lookup (Str.ofString "ways") = some cw) (hm : m (Str.ofString "heights") = some (.ref a)) (hl : Ints a hs s.heap) (hne : 0 < hs.length) (hmv : MovesAt s.heap c ms) (hlen : ms.length ≤ 5)
    (next : ∀ s' m' lo t, LawAt s₀ L cw tb m' (some (.ref c)) s' → m' (Str.ofString "able") = some (.bool (canN ms.length 0 ms)) → m' (Str.ofString "low") = some (.int lo t) → lo ∈ hs → (∀ a ∈ hs, lo ≤ a) → (∀ x, x ≠ Str.ofString "able" → x ≠ Str.ofString "low" → m' x = m x) → Up (Own3 L cw) s.heap s'.heap →
      wpAny (model PySem.Challenge.rw_om0053_01.prog w) A (execs (lawBody.drop 13) (lawEnv L cd)) Q E s') :
    wpAny (model PySem.Challenge.rw_om0053_01.prog w) A (execs (lawBody.drop 12) (lawEnv L cd)) Q E s := by
  show wpAny _ _ (execs (_ :: lawBody.drop 13) _) _ _ _
  have X1 := Y.X X
  have T1 := Y.T T
  with_reducible refine wpAny_execs_cons (Assign_Tuple_swapped (names := [Str.ofString "able", Str.ofString "low"]) ?h ?hs ?hw)
  case hs => rfl
  case hw => rfl
  refine wpAny_Tuple_spliced (spliced_more (Call_ (Name_function_global rfl rfl (loadGlobal_global (mg := mg) T1.g (mg_of X1 T1.g (name141 _)) (callWith_K (K := Mine.K2 w.params) X1 (keep141 _) (args_cons (wpAny_Constant_int (args_cons (law_ldCell (Y.grow' fun _ _ e => e) hc (args_nil ⟨X1, ?_⟩))))))))))
  refine AA_mono 15 (can_all w mg mb ms.length hlen _ _ _ 0 _ c ms X1 T1 rfl hmv fun h1 tk1 g1 kp1 go1 => ?_) hh (by (first | lia | omega)) (by (first | lia | omega))
  have kp1' : Kp s.heap h1 := kp1
  have Y1 : ∀ tk, LawAt s₀ L cw tb m (some (.ref c)) { s with heap := h1, toks := tk, gens := g1 } := fun tk => Y.grow kp1' go1
  have X2 := X1.keeps kp1'
  have T2 := T1.keeps kp1'
  refine spliced_more (Call_ (boot_name (w := w) (mg := mg) (mb := mb) rfl rfl rfl rfl X2 T2 rfl (no_min _) Boot.min (by decide) (PyProof.Rows.callWith_builtin1 (args_cons (law_ld (Y1 _) hm (args_nil ?_))))))
  refine min_ints hh (hl.keep kp1') hne fun h2 lo tk2 t2 kp2 hlo hle => ?_
  have kp2' : Kp h1 h2 := kp2
  refine spliced_none ⟨by rw [sizeLine_eq]; show 2 ≤ _; decide, ?_⟩
  have kp6 : ∀ (o : Obj), Kp h2 (h2.push o) := fun o b x e => Heap.get?_push_of_some _ e
  refine wpAny_unpackItems_tuple (items := #[.bool _, .int lo t2]) hh ⟨_, Heap.get?_push_size _ rfl, rfl, 0, rfl⟩ fun h7 hx7 => ?_
  have k07 : Kp s.heap h7 := fun b o e => by
    have e' := kp6 { cls := .type "tuple", data := .seq [Value.bool (canN ms.length 0 ms), Value.int lo t2].toArray } b o (kp2' _ _ (kp1' _ _ e))
    exact hx7 b o (Nat.ne_of_lt (Heap.lt_size e')) e'
  refine assignInOrder_cons (bindName_ (law_store (Y.grow k07 go1) fun h8 tk8 Y8 u8 => ?_))
  refine assignInOrder_cons (bindName_ (law_store Y8 fun h9 tk9 Y9 u9 => assignInOrder_nil ?_))
  with_reducible exact next _ _ lo t2 Y9 (if_pos rfl) ((if_neg (by decide)).trans (if_pos rfl)) hlo hle (fun y hy1 hy2 => (if_neg hy1).trans (if_neg hy2)) ((Up.of_kp k07).trans (Up.trans u8 u9))
theorem const_bool {M : Model} {env : Env} {b : Bool} {k : Nat} {pos : Pos} {Q : Value → Shared → Prop} (h : Q (.bool b) s) : wpAny M A (eval (.Constant (.bool b) k pos) env) Q E s := fun _ _ _ => h
theorem and_last {M : Model} {env : Env} {x y : Bool} {e : Expr} {pos : Pos} {Q : Value → Shared → Prop} (he : ∀ Q' : Value → Shared → Prop, (∀ tk, Q' (.bool y) { s with toks := tk }) → wpAny M A (eval e env) Q' E s) (h : ∀ tk, Q (.bool (x && y)) { s with toks := tk }) :
    if x = true then wpAny M A (eval (.BoolOp .And [e] pos) env) Q E s else Q (.bool x) s := by
  cases x with
  | false => rw [if_neg (by decide)]; exact h s.toks
  | true => rw [if_pos rfl]; exact BoolOp_one (he _ fun tk => h tk)
theorem eqAt_bools {bs : List Bool} {l b : Addr} (hl : s.heap.IsList l (bs.map Value.bool).toArray) (hb : s.heap.IsList b (bs.map Value.bool).toArray) (hu : A.units < cLine) : EqAt A s (.ref l) (.ref b) true := by
  by_cases e : l = b
  · subst e; exact EqAt.same _
  · have := EqAt.of_refs e (RcAt.lists (A := A) (s := s) (e := fun _ => true) hl hb rfl hu fun j h1 h2 => ?_)
    · have e : ((List.range (bs.map Value.bool).toArray.size).all fun _ => true) = true := by simp
      rw [e] at this; exact this
    · exact EqAt.same _
set_option maxRecDepth 100000 in
set_option maxHeartbeats 8000000 in
theorem law_13 {Q : Flow → Shared → Prop} {a b c : Addr} {hs : List Int} {as bs : List Bool} {lo W : Int} {ta tw : Tok} {able : Bool} (X : (Mine.K2 w.params).In s₀.heap) (T : TopRead Mine.myView LS mg mb s₀.heap) (hh : A.handled = none) (hu : A.units ≤ 4000)
    (Y : LawAt s₀ L cw tb m cv s) (hm : m (Str.ofString "asked") = some (.ref a)) (hl : Bools a as s.heap) (hm2 : m (Str.ofString "more") = some (.ref b)) (hl2 : Bools b bs s.heap)
    (hm3 : m (Str.ofString "heights") = some (.ref c)) (hl3 : Ints c hs s.heap) (hlen : hs.length ≤ 5) (hne : 1 < hs.length) (hm4 : m (Str.ofString "low") = some (.int lo ta)) (hm5 : m (Str.ofString "able") = some (.bool able)) (hm6 : m (Str.ofString "whole") = some (.int W tw))
    (heq : ∀ li, li ∈ hs.take (hs.length - 1) → (∀ x ∈ hs.take (hs.length - 1), li ≤ x) → as = [decide (0 ≤ lo), decide (-1 ≤ lo), decide (0 ≤ li) && decide (W = 0), able, false]) (heq2 : bs = [decide (0 ≤ lo), able, able, false])
    (next : ∀ s', LawAt s₀ L cw tb m cv s' → Q (.ret (.bool true)) s') :
    wpAny (model PySem.Challenge.rw_om0053_01.prog w) A (execs (lawBody.drop 13) (lawEnv L cd)) Q E s := by
  show wpAny _ _ (execs (_ :: lawBody.drop 14) _) _ _ _
  have X1 := Y.X X
  have T1 := Y.T T
  have Y1 : ∀ tk, LawAt s₀ L cw tb m cv { s with toks := tk } := fun tk => Y.grow' fun _ _ e => e
  refine wpAny_execs_cons (wpAny_Return_some (wpAny_Compare1 (List_ (spliced_more (law_ld Y hm (spliced_more (law_ld Y hm2 (spliced_none (wpAny_newList ?_)))))))))
  dsimp only
  generalize hh1 : s.heap.push _ = h1
  have kp1 : Kp s.heap h1 := fun b o e => hh1 ▸ Heap.get?_push_of_some _ e
  have e1 : h1.get? s.heap.objs.size = some _ := hh1 ▸ Heap.get?_push_size s.heap rfl
  clear hh1
  have Y2 : ∀ tk, LawAt s₀ L cw tb m cv { s with heap := h1, toks := tk } := fun tk => Y.grow' kp1
  refine List_ (spliced_more (List_ (spliced_more (wpAny_Compare1 (law_ld (Y2 _) hm4 (wpAny_Constant_int (ge_int ?_)))))))
  refine spliced_more (wpAny_Compare1 (law_ld (Y2 _) hm4 (wpAny_UnaryOp (wpAny_Constant_int (neg_int (ge_int ?_))))))
  refine spliced_more (BoolOp_and (wpAny_Compare1 (Call_ (boot_name (w := w) (mg := mg) (mb := mb) rfl rfl rfl rfl (X1.keeps kp1) (T1.keeps kp1) rfl (no_min _) Boot.min (by decide) ?_))))
  obtain ⟨vs, hlv, hi⟩ := hl3
  refine PyProof.Rows.callWith_builtin1 (args_cons (slice_new (law_ld (Y2 _) hm3 (wpAny_evalPart_none (wpAny_evalPart_some (wpAny_UnaryOp (wpAny_Constant_int (neg_int ⟨c, vs.toArray, none, some (-1), rfl, isList_keep hlv kp1, by rw [List.size_toArray, hi.length, sizeLine_eq]; (first | lia | omega), .none, .int _ _, fun h2 D2 hf2 kp2 hD2 => args_nil ?_⟩))))))))
  have kp2' : Kp h1 h2 := kp2
  rw [pick_init] at hD2
  have k02 : Kp s.heap h2 := fun b o e => kp2' _ _ (kp1 _ _ e)
  have ez : (vs.toArray.toList.take (vs.toArray.size - 1)) = vs.take (hs.length - 1) := by rw [List.size_toArray, hi.length]
  rw [ez] at hD2
  refine min_ints (ns := hs.take (hs.length - 1)) hh ⟨_, ⟨_, hD2, rfl, _, rfl⟩, hi.take _⟩ (by rw [List.length_take]; (first | lia | omega)) fun h3 li tk3 t3 kp3 hli hle => ?_
  have kp3' : Kp h2 h3 := kp3
  have k03 : Kp s.heap h3 := fun b o e => kp3' _ _ (k02 _ _ e)
  have Y3 : ∀ tk, LawAt s₀ L cw tb m cv { s with heap := h3, toks := tk } := fun tk => Y.grow' k03
  have ha := heq li hli hle
  refine wpAny_Constant_int (ge_int (wpAny_truthy_bool (and_last (y := decide (W = 0)) (fun Q' hQ => wpAny_Compare1 (law_ld (Y3 _) hm6 (wpAny_Constant_int (eq_int ?_)))) fun tk4 => ?_)))
  · exact hQ _
  refine spliced_more (law_ld (Y3 _) hm5 (spliced_more (const_bool (spliced_none (wpAny_newList ?_)))))
  dsimp only
  generalize hh4 : h3.push _ = h4
  have kp4 : Kp h3 h4 := fun b o e => hh4 ▸ Heap.get?_push_of_some _ e
  have e4 : h4.get? h3.objs.size = some _ := hh4 ▸ Heap.get?_push_size h3 rfl
  clear hh4
  have k04 : Kp s.heap h4 := fun b o e => kp4 _ _ (k03 _ _ e)
  have Y4 : ∀ tk, LawAt s₀ L cw tb m cv { s with heap := h4, toks := tk } := fun tk => Y.grow' k04
  refine spliced_more (List_ (spliced_more (wpAny_Compare1 (law_ld (Y4 _) hm4 (wpAny_Constant_int (ge_int ?_))))))
  refine spliced_more (law_ld (Y4 _) hm5 (spliced_more (law_ld (Y4 _) hm5 (spliced_more (const_bool (spliced_none (wpAny_newList ?_)))))))
  dsimp only
  generalize hh5 : h4.push _ = h5
  have kp5 : Kp h4 h5 := fun b o e => hh5 ▸ Heap.get?_push_of_some _ e
  have e5 : h5.get? h4.objs.size = some _ := hh5 ▸ Heap.get?_push_size h4 rfl
  clear hh5
  refine spliced_none (wpAny_newList ?_)
  have la : s.heap.IsList a (as.map Value.bool).toArray := hl
  have lb : s.heap.IsList b (bs.map Value.bool).toArray := hl2
  rw [ha] at la
  rw [heq2] at lb
  dsimp only
  generalize hh6 : h5.push _ = h6
  have l6 : h6.IsList h5.objs.size #[.ref h3.objs.size, .ref h4.objs.size] := ⟨_, hh6 ▸ Heap.get?_push_size h5 rfl, rfl, 0, rfl⟩
  have k56 : Kp h5 h6 := fun b o e => hh6 ▸ Heap.get?_push_of_some _ e
  have k46 : Kp h4 h6 := fun b o e => k56 _ _ (kp5 _ _ e)
  have k06 : Kp s.heap h6 := fun b o e => k46 _ _ (k04 _ _ e)
  have k16 : Kp h1 h6 := fun b o e => k46 _ _ (kp4 _ _ (kp3' _ _ (kp2' _ _ e)))
  have l1 : h6.IsList s.heap.objs.size #[.ref a, .ref b] := ⟨_, k16 _ _ e1, rfl, 0, rfl⟩
  refine RcAt.lists (A := A) (e := fun _ => true) (items := #[.ref a, .ref b]) (items2 := #[.ref h3.objs.size, .ref h4.objs.size]) l1 l6 (by rfl) (Nat.lt_of_le_of_lt hu (by decide)) (fun j h1 h2 => ?_) _ _ _ _ ?_
  · have hu1 : A.in1.units < cLine := Nat.lt_of_le_of_lt (Nat.succ_le_succ hu) (by decide)
    match j, h1 with
    | 0, _ => exact eqAt_bools (bs := [decide (0 ≤ lo), decide (-1 ≤ lo), decide (0 ≤ li) && decide (W = 0), able, false]) (isList_keep la k06) ⟨_, k46 _ _ e4, rfl, 0, rfl⟩ hu1
    | 1, _ => exact eqAt_bools (bs := [decide (0 ≤ lo), able, able, false]) (isList_keep lb k06) ⟨_, k56 _ _ e5, rfl, 0, rfl⟩ hu1
  · exact next _ (Y.grow' k06)
end
end Mine

end
section
open PySem PySem.W PySem.Calls PyProof.Rows
set_option Elab.async false
set_option linter.unusedVariables false
namespace Mine
/-- the pieces' building blocks -/
inductive Tk where
  | op | cl | esc | quo | rev | bs
  deriving DecidableEq
noncomputable def Tk.cs : Tk → List Nat
  | .op => [40] | .cl => [41] | .esc => [92, 40, 92, 34] | .quo => [34, 40, 34] | .rev => [41, 40] | .bs => [92, 92]
noncomputable def Tk.left : Tk → List Nat
  | .quo => [] | t => t.cs
noncomputable def Tk.eff : Tk → List Int
  | .op => [1] | .cl => [-1] | .esc => [0, 0] | .quo => [] | .rev => [-1, 1] | .bs => [0]
noncomputable def Tk.items : Tk → Nat → List (Int × Str)
  | .op, i => [((i : Int), ⟨#[40]⟩)] | .cl, i => [((i : Int), ⟨#[41]⟩)] | .esc, i => [(((i + 1 : Nat) : Int), ⟨#[92, 40]⟩), (((i + 1 + 1 + 1 : Nat) : Int), ⟨#[92, 34]⟩)]
  | .quo, i => [((i : Int), ⟨#[34]⟩), (((i + 1 : Nat) : Int), ⟨#[40]⟩), (((i + 1 + 1 : Nat) : Int), ⟨#[34]⟩)] | .rev, i => [((i : Int), ⟨#[41]⟩), (((i + 1 : Nat) : Int), ⟨#[40]⟩)] | .bs, i => [(((i + 1 : Nat) : Int), ⟨#[92, 92]⟩)]
theorem esc_tk (t : Tk) (i : Nat) (r : List Nat) : escFrom i false (t.cs ++ r) = t.items i ++ escFrom (i + t.cs.length) false r := by
  cases t <;> rfl
theorem q34 : ((⟨#[34]⟩ : Str) == Str.ofString "\"") = true := by decide
theorem q40 : ((⟨#[40]⟩ : Str) == Str.ofString "\"") = false := by decide
theorem q41 : ((⟨#[41]⟩ : Str) == Str.ofString "\"") = false := by decide
theorem q92 : ((⟨#[92]⟩ : Str) == Str.ofString "\"") = false := by decide
theorem q9240 : ((⟨#[92, 40]⟩ : Str) == Str.ofString "\"") = false := by decide
theorem q9234 : ((⟨#[92, 34]⟩ : Str) == Str.ofString "\"") = false := by decide
theorem q9292 : ((⟨#[92, 92]⟩ : Str) == Str.ofString "\"") = false := by decide
theorem strip_tk (x : Str) (st : Int) (ps : List Str) (t : Tk) (h : t ≠ .quo) (i : Nat) (r : List (Int × Str)) : stripLoop x st none ps (t.items i ++ r) = stripLoop x st none ps r := by
  cases t <;> first | exact absurd rfl h | simp [Tk.items, stripLoop, q40, q41, q9240, q9234, q9292]
theorem strip_quo (x : Str) (st : Int) (ps : List Str) (i : Nat) (r : List (Int × Str)) :
    stripLoop x st none ps (Tk.quo.items i ++ r) = stripLoop x (((i + 1 + 1 : Nat) : Int) + 1) none (if (st != (i : Int)) = true then ps ++ [Txt.slice x (some st) (some (i : Int))] else ps) r := by
  simp [Tk.items, stripLoop, q34, q40]
noncomputable def flat (ps : List Str) : List Nat := ps.flatMap (·.cps.toList)
/-- what the loop over tokens leaves: the parts, where the next begins -/
theorem strip_toks (x : Str) (u : List Nat) : ∀ (T : List Tk) (pre : List Nat) (st : Nat) (ps : List Str), x.cps.toList = pre ++ (T.flatMap Tk.cs ++ u) → st ≤ pre.length →
    ∃ (st' : Nat) (ps' : List Str), stripLoop x (st : Int) none ps (escFrom pre.length false (T.flatMap Tk.cs ++ u)) = stripLoop x (st' : Int) none ps' (escFrom (pre ++ T.flatMap Tk.cs).length false u) ∧ st' ≤ (pre ++ T.flatMap Tk.cs).length ∧
      flat ps' ++ (pre ++ T.flatMap Tk.cs).drop st' = flat ps ++ pre.drop st ++ T.flatMap Tk.left
  | [], pre, st, ps, hx, hst => ⟨st, ps, by simp, by simpa using hst, by simp⟩
  | t :: T, pre, st, ps, hx, hst => by
    have hlen : (pre ++ t.cs).length = pre.length + t.cs.length := List.length_append
    have hx' : x.cps.toList = (pre ++ t.cs) ++ (T.flatMap Tk.cs ++ u) := by rw [hx, List.flatMap_cons]; simp
    have e : pre ++ (t :: T).flatMap Tk.cs = (pre ++ t.cs) ++ T.flatMap Tk.cs := by rw [List.flatMap_cons]; simp
    have e2 : (t :: T).flatMap Tk.cs ++ u = t.cs ++ (T.flatMap Tk.cs ++ u) := by rw [List.flatMap_cons]; simp
    rw [e, e2, esc_tk, ← hlen]
    by_cases hq : t = .quo
    · subst hq
      rw [strip_quo]
      have hl3 : (pre ++ Tk.quo.cs).length = pre.length + 3 := by rw [hlen]; rfl
      have c : (((pre.length + 1 + 1 : Nat) : Int) + 1) = ((pre.length + 3 : Nat) : Int) := by push_cast; (first | lia | omega)
      rw [c]
      obtain ⟨st', ps', h1, h2, h3⟩ := strip_toks x u T (pre ++ Tk.quo.cs) (pre.length + 3) (if ((st : Int) != (pre.length : Int)) = true then ps ++ [Txt.slice x (some (st : Int)) (some (pre.length : Int))] else ps) hx' (by rw [hl3]; exact Nat.le_refl _)
      refine ⟨st', ps', h1, h2, h3.trans ?_⟩
      have d0 : (pre ++ Tk.quo.cs).drop (pre.length + 3) = [] := List.drop_of_length_le (by rw [hl3]; exact Nat.le_refl _)
      rw [d0, List.append_nil, List.flatMap_cons]
      show _ = _ ++ ([] ++ _)
      rw [List.nil_append]
      congr 1
      split
      · rename_i hne
        have hlx : pre.length ≤ x.length := by
          show pre.length ≤ x.cps.size
          rw [← Array.length_toList, hx, List.length_append]; (first | lia | omega)
        rw [flat, List.flatMap_append, List.flatMap_cons, List.flatMap_nil, List.append_nil, slice_plain x hst hlx, hx]
        congr 1
        rw [List.drop_append_of_le_length hst, List.take_append_of_le_length (by rw [List.length_drop]; exact Nat.le_refl _), List.take_of_length_le (by rw [List.length_drop]; exact Nat.le_refl _)]
      · rename_i he
        have h0 : (st : Int) = (pre.length : Int) := by simpa using he
        have : st = pre.length := by (first | lia | omega)
        rw [this, List.drop_length, List.append_nil]
    · rw [strip_tk x _ ps t hq]
      obtain ⟨st', ps', h1, h2, h3⟩ := strip_toks x u T (pre ++ t.cs) st ps hx' (by rw [hlen]; (first | lia | omega))
      refine ⟨st', ps', h1, h2, h3.trans ?_⟩
      have hl : t.left = t.cs := by cases t <;> first | rfl | exact absurd rfl hq
      rw [List.drop_append_of_le_length hst, List.flatMap_cons, hl]
      simp
/-- an end that shuts no quotation mark -/
inductive Tail : List Nat → Prop
  | none : Tail []
  | bs : Tail [92]
  | two : Tail [34, 40, 41]
  | one : Tail [34, 40]
noncomputable def tailEff : List Nat → List Int
  | [92] => [0] | [34, 40, 41] => [0, 1, -1] | [34, 40] => [0, 1] | _ => []
theorem strip_tail (x : Str) (st : Int) (ps : List Str) {u : List Nat} (hu : Tail u) (i : Nat) : stripLoop x st none ps (escFrom i false u) = (st, ps) := by
  cases hu <;> simp [escFrom, stripLoop, q34, q40, q41, q92]
theorem stripOf_toks {x : Str} {T : List Tk} {u : List Nat} (hu : Tail u) (hx : x.cps.toList = T.flatMap Tk.cs ++ u) : (stripOf x).cps.toList = T.flatMap Tk.left ++ u := by
  obtain ⟨st, ps, h1, h2, h3⟩ := strip_toks x u T [] 0 [] (by simpa using hx) (Nat.le_refl _)
  rw [strip_tail x _ _ hu] at h1
  simp only [List.nil_append] at h1 h2 h3
  have e : stripLoop x 0 none [] (escItems x) = ((st : Int), ps) := by
    have : escItems x = escFrom 0 false (T.flatMap Tk.cs ++ u) := by rw [escItems, hx]
    rw [this]; exact h1
  have hsz : x.length = (T.flatMap Tk.cs ++ u).length := by
    show x.cps.size = _
    rw [← Array.length_toList, hx]
  have h2' : st ≤ x.length := by rw [hsz, List.length_append]; (first | lia | omega)
  have key : (stripOf x).cps.toList = flat ps ++ x.cps.toList.drop st := by
    rw [stripOf, e]
    dsimp only
    split
    · rw [join_list_eq, List.flatMap_append, List.flatMap_cons, List.flatMap_nil, List.append_nil, slice_from x h2']; rfl
    · rename_i hge
      have : x.cps.toList.drop st = [] := List.drop_of_length_le (by rw [Array.length_toList]; show x.length ≤ st; (first | lia | omega))
      rw [join_list_eq, this, List.append_nil]; rfl
  rw [key, hx, List.drop_append_of_le_length h2, ← List.append_assoc, h3]
  simp [flat]
noncomputable def effOf (its : List (Int × Str)) : List Int := its.map fun p => stepOf p.2
theorem eff_tk (t : Tk) (h : t ≠ .quo) (i : Nat) : effOf (t.items i) = t.eff := by
  cases t <;> first | exact absurd rfl h | (simp only [effOf, Tk.items, Tk.eff, List.map_cons, List.map_nil]; decide)
theorem eff_toks (u : List Nat) : ∀ (T : List Tk) (i : Nat), effOf (escFrom i false (T.flatMap Tk.left ++ u)) = T.flatMap Tk.eff ++ effOf (escFrom (i + (T.flatMap Tk.left).length) false u)
  | [], i => by simp
  | t :: T, i => by
    by_cases hq : t = .quo
    · subst hq
      show effOf (escFrom i false (T.flatMap Tk.left ++ u)) = T.flatMap Tk.eff ++ _
      rw [eff_toks u T i]; rfl
    · have hl : t.left = t.cs := by cases t <;> first | rfl | exact absurd rfl hq
      have e2 : (t :: T).flatMap Tk.left ++ u = t.cs ++ (T.flatMap Tk.left ++ u) := by rw [List.flatMap_cons, hl]; simp
      have e3 : i + ((t :: T).flatMap Tk.left).length = i + t.cs.length + (T.flatMap Tk.left).length := by rw [List.flatMap_cons, hl, List.length_append]; (first | lia | omega)
      rw [e2, esc_tk, e3, List.flatMap_cons, effOf, List.map_append]
      have := eff_toks u T (i + t.cs.length)
      rw [effOf] at this
      rw [this, List.append_assoc]
      congr 1
      exact eff_tk t hq i
theorem eff_tail {u : List Nat} (hu : Tail u) (i : Nat) : effOf (escFrom i false u) = tailEff u := by
  have s34 : stepOf ⟨#[34]⟩ = 0 := by decide
  have s40 : stepOf ⟨#[40]⟩ = 1 := by decide
  have s41 : stepOf ⟨#[41]⟩ = -1 := by decide
  have s92 : stepOf ⟨#[92]⟩ = 0 := by decide
  cases hu <;> simp [escFrom, effOf, tailEff, s34, s40, s41, s92]
theorem eff_text {x : Str} {T : List Tk} {u : List Nat} (hu : Tail u) (hx : x.cps.toList = T.flatMap Tk.cs ++ u) : effOf (escItems (stripOf x)) = T.flatMap Tk.eff ++ tailEff u := by
  rw [escItems, stripOf_toks hu hx, eff_toks, eff_tail hu]
/-- least height, and the end, of steps -/
noncomputable def mn : List Int → Int
  | [] => 0
  | d :: r => min 0 (d + mn r)
theorem mn_le : ∀ s, mn s ≤ 0
  | [] => Int.le_refl _
  | d :: r => by rw [mn]; exact Int.min_le_left _ _
theorem mn_sum : ∀ s : List Int, mn s ≤ s.sum
  | [] => Int.le_refl _
  | d :: r => by rw [mn, List.sum_cons]; exact Int.le_trans (Int.min_le_right _ _) (Int.add_le_add_left (mn_sum r) d)
theorem add_min' (a b c : Int) : a + min b c = min (a + b) (a + c) := by (first | lia | omega)
theorem fold_min (lo en d m : Int) (h : lo ≤ en) (hm : m ≤ 0) : min (min lo (en + d)) (en + d + m) = min lo (en + min 0 (d + m)) := by
  rw [add_min', Int.add_zero, ← Int.min_assoc, Int.min_eq_left h, Int.min_assoc, Int.min_eq_right (a := en + d) (by (first | lia | omega)), Int.add_assoc]
theorem min_of (lo x : Int) : minOf lo x = min lo x := by unfold minOf; split <;> (first | lia | omega)
theorem mn_append : ∀ s r : List Int, mn (s ++ r) = min (mn s) (s.sum + mn r)
  | [], r => by rw [List.nil_append, mn, List.sum_nil, Int.zero_add]; exact (Int.min_eq_right (mn_le r)).symm
  | d :: s, r => by rw [List.cons_append, mn, mn, mn_append s r, List.sum_cons, add_min', Int.min_assoc, Int.add_assoc]
theorem walk_fold : ∀ (its : List Str) (lo en : Int), lo ≤ en → its.foldl walkStep (lo, en) = (min lo (en + mn (its.map stepOf)), en + (its.map stepOf).sum)
  | [], lo, en, h => by rw [List.foldl_nil, List.map_nil, mn, List.sum_nil, Int.add_zero, Int.min_eq_left h]
  | c :: r, lo, en, h => by
    rw [List.foldl_cons, walkStep, min_of, walk_fold r _ _ (Int.min_le_right _ _), List.map_cons, mn, List.sum_cons, fold_min _ _ _ _ h (mn_le _), Int.add_assoc en (stepOf c) (r.map stepOf).sum]
theorem readOf_eff (x : Str) : readOf x = (mn (effOf (escItems (stripOf x))), (effOf (escItems (stripOf x))).sum) := by
  rw [readOf, walkOf, walk_fold _ 0 0 (Int.le_refl _), List.map_map]
  show (min 0 (0 + mn (effOf _)), 0 + (effOf _).sum) = _
  rw [Int.zero_add, Int.zero_add, Int.min_eq_right (mn_le _)]
theorem bal_eff : ∀ (its : List (Int × Str)) (o : Int), 0 ≤ o → balOf o its = (decide (0 ≤ o + mn (effOf its)) && (o + (effOf its).sum == 0))
  | [], o, h => by
    have e1 : o + mn (effOf []) = o := by show o + 0 = o; (first | lia | omega)
    have e2 : o + (effOf []).sum = o := by show o + 0 = o; (first | lia | omega)
    rw [balOf, e1, e2, decide_eq_true h, Bool.true_and]
  | (i, c) :: r, o, h => by
    have e1 : effOf ((i, c) :: r) = stepOf c :: effOf r := rfl
    rw [e1, mn, List.sum_cons, balOf]
    have hm := mn_le (effOf r)
    by_cases h1 : (c == Str.ofString "(") = true
    · have hs : stepOf c = 1 := by rw [stepOf, if_pos h1]
      rw [if_pos h1, bal_eff r (o + 1) (by (first | lia | omega)), hs]
      have a1 : (0 ≤ o + 1 + mn (effOf r)) ↔ (0 ≤ o + min 0 (1 + mn (effOf r))) := by (first | lia | omega)
      rw [decide_eq_decide.mpr a1, Int.add_assoc]
    · rw [if_neg h1]
      by_cases h2 : (c == Str.ofString ")") = true
      · have hs : stepOf c = -1 := by rw [stepOf, if_neg h1, if_pos h2]
        rw [if_pos h2, hs]
        by_cases h3 : o - 1 < 0
        · rw [if_pos h3]
          have : ¬ (0 ≤ o + min 0 (-1 + mn (effOf r))) := by (first | lia | omega)
          rw [decide_eq_false this, Bool.false_and]
        · rw [if_neg h3, bal_eff r (o - 1) (by (first | lia | omega))]
          have a1 : (0 ≤ o - 1 + mn (effOf r)) ↔ (0 ≤ o + min 0 (-1 + mn (effOf r))) := by (first | lia | omega)
          rw [decide_eq_decide.mpr a1]
          have a2 : o - 1 + (effOf r).sum = o + (-1 + (effOf r).sum) := by (first | lia | omega)
          rw [a2]
      · have hs : stepOf c = 0 := by rw [stepOf, if_neg h1, if_neg h2]
        rw [if_neg h2, bal_eff r o h, hs]
        have a1 : (0 ≤ o + mn (effOf r)) ↔ (0 ≤ o + min 0 (0 + mn (effOf r))) := by (first | lia | omega)
        have a2 : o + (0 + (effOf r).sum) = o + (effOf r).sum := by (first | lia | omega)
        rw [decide_eq_decide.mpr a1, a2]
theorem check_eff (x : Str) : checkOf x = (decide (0 ≤ mn (effOf (escItems (stripOf x)))) && ((effOf (escItems (stripOf x))).sum == 0)) := by
  rw [checkOf, bal_eff _ 0 (Int.le_refl _), Int.zero_add, Int.zero_add]
theorem check_toks {x : Str} {T : List Tk} {u : List Nat} (hu : Tail u) (hx : x.cps.toList = T.flatMap Tk.cs ++ u) : checkOf x = (decide (0 ≤ mn (T.flatMap Tk.eff ++ tailEff u)) && ((T.flatMap Tk.eff ++ tailEff u).sum == 0)) := by
  rw [check_eff, eff_text hu hx]
theorem read_toks {x : Str} {T : List Tk} (hx : x.cps.toList = T.flatMap Tk.cs) : readOf x = (mn (T.flatMap Tk.eff), (T.flatMap Tk.eff).sum) := by
  rw [readOf_eff, eff_text .none (by rw [hx, List.append_nil])]
  show (mn (_ ++ []), (_ ++ []).sum) = _
  rw [List.append_nil]
end Mine

end
section
open PySem PySem.W PySem.Calls PyProof.Rows
set_option Elab.async false
set_option linter.unusedVariables false
namespace Mine
open PySem.W.X
noncomputable def tokOf (p : Str) : List Tk :=
  if p = Str.ofString "r" then [.op] else if p = Str.ofString "w" then [.cl] else if p = Str.ofString "x" then [.esc] else if p = Str.ofString "s" then [.quo] else if p = Str.ofString "S" then [.rev] else if p = Str.ofString "t" then [.bs] else if p = Str.ofString "T" then [.rev] else []
noncomputable def toksOf (n : Int) : List Tk := (fmSigns n).tail.flatMap tokOf
theorem tok_sign : ∀ q ∈ signMap, (signOf q.1).cps.toList = (tokOf q.1).flatMap Tk.cs := by decide
theorem pieceOf_toks (n : Int) : (pieceOf n).cps.toList = (toksOf n).flatMap Tk.cs := by
  rw [pieceOf, join_list_eq, toksOf]
  have hk := fm_keys n
  generalize (fmSigns n).tail = l at hk
  induction l with
  | nil => rfl
  | cons p r ih =>
    obtain ⟨v, hm, hs⟩ := hk p (.head _)
    rw [List.map_cons, List.flatMap_cons, List.flatMap_cons, List.flatMap_append, ih fun q hq => hk q (.tail _ hq)]
    congr 1
    exact tok_sign _ hm
noncomputable def bit (n : Nat) (k : Nat) : Bool := decide (n / k % 2 = 1)
theorem bit_eq (n j : Nat) : bit n (2 ^ j) = n.testBit j := by rw [Nat.testBit_eq_decide_div_mod_eq]; rfl
theorem and_pow (n j : Nat) : n &&& 2 ^ j = if bit n (2 ^ j) = true then 2 ^ j else 0 := by
  rw [bit_eq]
  refine Nat.eq_of_testBit_eq fun i => ?_
  rw [Nat.testBit_and, Nat.testBit_two_pow]
  by_cases e : j = i
  · subst e
    cases h : n.testBit j with
    | true => rw [if_pos rfl, Nat.testBit_two_pow]; simp
    | false => rw [if_neg (by decide)]; simp
  · rw [decide_eq_false e, Bool.and_false]
    split
    · rw [Nat.testBit_two_pow, decide_eq_false e]
    · simp
theorem cast_beq (x m : Nat) : (((x : Nat) : Int) == ((m : Nat) : Int)) = decide (x = m) := by
  by_cases h : x = m
  · subst h; simp
  · rw [decide_eq_false h]; exact beq_eq_false_iff_ne.mpr fun z => h (Int.ofNat_inj.mp z)
theorem band_cast (n m : Nat) : Builtin.bitAnd (n : Int) (m : Int) = ((n &&& m : Nat) : Int) := by
  unfold Builtin.bitAnd
  rw [decide_eq_true (Int.natCast_nonneg n), decide_eq_true (Int.natCast_nonneg _)]
  rfl
theorem test_one (n i j k : Nat) (hk : k = 2 ^ j) : fmTest (n : Int) (i + 1) ((k : Nat) : Int) = bit n k := by
  have h1 : 0 < k := hk ▸ Nat.two_pow_pos j
  unfold fmTest
  rw [if_neg (Nat.succ_ne_zero i), band_cast, cast_beq]
  have e : n &&& k = if bit n k = true then k else 0 := by rw [hk]; exact and_pow n j
  rw [e]
  cases bit n k with
  | true => rw [if_pos rfl]; simp
  | false => rw [if_neg (by decide)]; exact decide_eq_false (by (first | lia | omega))
theorem test_two (n i j k a b m : Nat) (ha : a = 2 ^ j) (hb : b = 2 ^ k) (hm : m = a ||| b) (h0 : m ≠ 0) (h1 : a ≠ m) (h2 : b ≠ m) : fmTest (n : Int) (i + 1) (m : Int) = (bit n a && bit n b) := by
  unfold fmTest
  rw [if_neg (Nat.succ_ne_zero i), band_cast, cast_beq]
  have ea : n &&& a = if bit n a = true then a else 0 := by rw [ha]; exact and_pow n j
  have eb : n &&& b = if bit n b = true then b else 0 := by rw [hb]; exact and_pow n k
  have : n &&& m = (if bit n a = true then a else 0) ||| (if bit n b = true then b else 0) := by rw [hm, Nat.and_or_distrib_left, ea, eb]
  rw [this]
  cases bit n a <;> cases bit n b
  · rw [if_neg (by decide), if_neg (by decide), Nat.or_zero]; exact decide_eq_false (Ne.symm h0)
  · rw [if_neg (by decide), if_pos rfl, Nat.zero_or]; exact decide_eq_false h2
  · rw [if_pos rfl, if_neg (by decide), Nat.or_zero]; exact decide_eq_false h1
  · rw [if_pos rfl, if_pos rfl]; exact decide_eq_true hm.symm
noncomputable def tri (r w x s top : Bool) : List Tk := (if r = true then [.op] else []) ++ ((if w = true then [.cl] else []) ++ (if (x && s) = true then [if top = true then .bs else .quo] else if s = true then [.rev] else if x = true then [.esc] else []))
noncomputable def b2 (b : Bool) : Int := if b = true then 1 else 0
theorem tri_mn : ∀ (r w x s top : Bool), mn ((tri r w x s top).flatMap Tk.eff) = min 0 (b2 r - b2 w - b2 (s && !x)) := by decide
theorem tri_sum : ∀ (r w x s top : Bool), ((tri r w x s top).flatMap Tk.eff).sum = b2 r - b2 w := by decide
theorem toksOf_tri (n : Nat) : toksOf (n : Int) = tri (bit n 256) (bit n 128) (bit n 64) (bit n 2048) false ++ (tri (bit n 32) (bit n 16) (bit n 8) (bit n 1024) false ++ tri (bit n 4) (bit n 2) (bit n 1) (bit n 512) true) := by
  have t256 : fmTest (n : Int) 1 256 = bit n 256 := test_one n 0 8 256 rfl
  have t128 : fmTest (n : Int) 2 128 = bit n 128 := test_one n 1 7 128 rfl
  have t2112 : fmTest (n : Int) 3 2112 = (bit n 64 && bit n 2048) := test_two n 2 6 11 64 2048 2112 rfl rfl rfl (by decide) (by decide) (by decide)
  have t2048 : fmTest (n : Int) 3 2048 = bit n 2048 := test_one n 2 11 2048 rfl
  have t64 : fmTest (n : Int) 3 64 = bit n 64 := test_one n 2 6 64 rfl
  have t32 : fmTest (n : Int) 4 32 = bit n 32 := test_one n 3 5 32 rfl
  have t16 : fmTest (n : Int) 5 16 = bit n 16 := test_one n 4 4 16 rfl
  have t1032 : fmTest (n : Int) 6 1032 = (bit n 8 && bit n 1024) := test_two n 5 3 10 8 1024 1032 rfl rfl rfl (by decide) (by decide) (by decide)
  have t1024 : fmTest (n : Int) 6 1024 = bit n 1024 := test_one n 5 10 1024 rfl
  have t8 : fmTest (n : Int) 6 8 = bit n 8 := test_one n 5 3 8 rfl
  have t4 : fmTest (n : Int) 7 4 = bit n 4 := test_one n 6 2 4 rfl
  have t2 : fmTest (n : Int) 8 2 = bit n 2 := test_one n 7 1 2 rfl
  have t513 : fmTest (n : Int) 9 513 = (bit n 1 && bit n 512) := test_two n 8 0 9 1 512 513 rfl rfl rfl (by decide) (by decide) (by decide)
  have t512 : fmTest (n : Int) 9 512 = bit n 512 := test_one n 8 9 512 rfl
  have t1 : fmTest (n : Int) 9 1 = bit n 1 := test_one n 8 0 1 rfl
  have e : (fmSigns (n : Int)).tail = [fmPick n 1 [(256, Str.ofString "r")], fmPick n 2 [(128, Str.ofString "w")], fmPick n 3 [(2112, Str.ofString "s"), (2048, Str.ofString "S"), (64, Str.ofString "x")],
    fmPick n 4 [(32, Str.ofString "r")], fmPick n 5 [(16, Str.ofString "w")], fmPick n 6 [(1032, Str.ofString "s"), (1024, Str.ofString "S"), (8, Str.ofString "x")],
    fmPick n 7 [(4, Str.ofString "r")], fmPick n 8 [(2, Str.ofString "w")], fmPick n 9 [(513, Str.ofString "t"), (512, Str.ofString "T"), (1, Str.ofString "x")]] := rfl
  have g1 : ∀ (i : Nat) (b : Int) (c : Str) (v : Bool) (t : List Tk), fmTest n (i + 1) b = v → tokOf c = t → tokOf (fmPick n (i + 1) [(b, c)]) = if v = true then t else [] := fun i b c v t h1 h2 => by
    rw [fmPick, fmPick, h1]
    cases v
    · rfl
    · exact h2
  have g3 : ∀ (i : Nat) (b1 b2 b3 : Int) (c1 c2 c3 : Str) (x s top : Bool), fmTest n (i + 1) b1 = (x && s) → fmTest n (i + 1) b2 = s → fmTest n (i + 1) b3 = x → tokOf c1 = [if top = true then .bs else .quo] → tokOf c2 = [.rev] → tokOf c3 = [.esc] →
      tokOf (fmPick n (i + 1) [(b1, c1), (b2, c2), (b3, c3)]) = if (x && s) = true then [if top = true then .bs else .quo] else if s = true then [.rev] else if x = true then [.esc] else [] := fun i b1 b2 b3 c1 c2 c3 x s top h1 h2 h3 k1 k2 k3 => by
    rw [fmPick, fmPick, fmPick, fmPick, h1, h2, h3]
    cases x <;> cases s <;> first | exact k1 | exact k2 | exact k3 | rfl
  rw [toksOf, e]
  simp only [List.flatMap_cons, List.flatMap_nil, List.append_nil]
  rw [g1 0 256 _ _ [.op] t256 (by decide), g1 1 128 _ _ [.cl] t128 (by decide), g3 2 2112 2048 64 _ _ _ (bit n 64) (bit n 2048) false t2112 t2048 t64 (by decide) (by decide) (by decide),
    g1 3 32 _ _ [.op] t32 (by decide), g1 4 16 _ _ [.cl] t16 (by decide), g3 5 1032 1024 8 _ _ _ (bit n 8) (bit n 1024) false t1032 t1024 t8 (by decide) (by decide) (by decide),
    g1 6 4 _ _ [.op] t4 (by decide), g1 7 2 _ _ [.cl] t2 (by decide), g3 8 513 512 1 _ _ _ (bit n 1) (bit n 512) true t513 t512 t1 (by decide) (by decide) (by decide)]
  simp only [tri, List.append_assoc]
theorem b2_bit (n k : Nat) : b2 (bit n k) = ((n / k % 2 : Nat) : Int) := by
  unfold b2 bit
  by_cases h : n / k % 2 = 1
  · rw [if_pos (decide_eq_true h), h]; rfl
  · rw [if_neg (by simpa using h)]
    have : n / k % 2 = 0 := by (first | lia | omega)
    rw [this]; rfl
theorem step_tri (n k : Nat) (r w x s : Bool) (lo en : Int) (h : lo ≤ en) (ht : threeOf (n : Int) k = 4 * b2 r + 2 * b2 w + b2 x) (hs : specOf (n : Int) k = b2 s) (top : Bool) :
    moveStep n k (lo, en) = (min lo (en + mn ((tri r w x s top).flatMap Tk.eff)), en + ((tri r w x s top).flatMap Tk.eff).sum) := by
  have key : ∀ r w x s : Bool, (4 * b2 r + 2 * b2 w + b2 x).fdiv 4 = b2 r ∧ ((4 * b2 r + 2 * b2 w + b2 x).fdiv 2).fmod 2 = b2 w ∧ (if b2 s = 1 ∧ (4 * b2 r + 2 * b2 w + b2 x).fmod 2 = 0 then (1 : Int) else 0) = b2 (s && !x) := by decide
  obtain ⟨k1, k2, k3⟩ := key r w x s
  rw [moveStep, ht, hs, k1, k2, k3, tri_mn, tri_sum, Prod.mk.injEq]
  dsimp only
  refine ⟨?_, Int.add_sub_assoc _ _ _⟩
  rw [min_of, add_min', Int.add_zero, ← Int.min_assoc, Int.min_eq_left h, Int.add_sub_assoc, Int.add_sub_assoc]
theorem three_bits (m : Nat) : m % 8 = 4 * (m / 4 % 2) + 2 * (m / 2 % 2) + m % 2 := by (first | lia | omega)
theorem three_at (n a b c : Nat) (hb : b = a * 4) (hc : c = a * 2) : ((n / a % 8 : Nat) : Int) = 4 * ((n / b % 2 : Nat) : Int) + 2 * ((n / c % 2 : Nat) : Int) + ((n / a % 2 : Nat) : Int) := by
  rw [three_bits (n / a), Nat.div_div_eq_div_mul, Nat.div_div_eq_div_mul, ← hb, ← hc]
  rfl
theorem min3 (a1 s1 a2 s2 a3 : Int) (h : a1 ≤ 0) : min (min (min 0 (0 + a1)) (0 + s1 + a2)) (0 + s1 + s2 + a3) = min a1 (s1 + min a2 (s2 + a3)) := by
  rw [Int.zero_add, Int.zero_add, Int.min_eq_right h, Int.min_assoc, add_min', Int.add_assoc]
theorem sum3 (a b c : Int) : 0 + a + b + c = a + (b + c) := by rw [Int.zero_add, Int.add_assoc]
theorem moveOf_toks (n : Nat) : moveOf (n : Int) = (mn ((toksOf n).flatMap Tk.eff), ((toksOf n).flatMap Tk.eff).sum) := by
  have hd : ∀ (a b : Nat), ((a : Nat) : Int).fdiv ((b : Nat) : Int) = ((a / b : Nat) : Int) := fun a b => by rw [Int.fdiv_eq_ediv_of_nonneg _ (Int.natCast_nonneg b)]; rfl
  have hm : ∀ (a b : Nat), ((a : Nat) : Int).fmod ((b : Nat) : Int) = ((a % b : Nat) : Int) := fun a b => by rw [Int.fmod_eq_emod_of_nonneg _ (Int.natCast_nonneg b)]; rfl
  have h3 : ∀ k : Nat, threeOf (n : Int) k = ((n / 8 ^ k % 8 : Nat) : Int) := fun k => by
    have e : (8 : Int) ^ k = ((8 ^ k : Nat) : Int) := (Int.natCast_pow 8 k).symm
    rw [threeOf, e]
    show (((n : Nat) : Int).fdiv ((8 ^ k : Nat) : Int)).fmod ((8 : Nat) : Int) = _
    rw [hd, hm]
  have hs : ∀ k : Nat, specOf (n : Int) k = ((n / 512 / 2 ^ k % 2 : Nat) : Int) := fun k => by
    have e : (2 : Int) ^ k = ((2 ^ k : Nat) : Int) := (Int.natCast_pow 2 k).symm
    rw [specOf, e]
    show ((((n : Nat) : Int).fdiv ((512 : Nat) : Int)).fdiv ((2 ^ k : Nat) : Int)).fmod ((2 : Nat) : Int) = _
    rw [hd, hd, hm]
  have s2 := step_tri n 2 (bit n 256) (bit n 128) (bit n 64) (bit n 2048) 0 0 (Int.le_refl _) (by rw [h3, b2_bit, b2_bit, b2_bit]; exact three_at n 64 256 128 rfl rfl) (by rw [hs, b2_bit]; exact congrArg (fun k : Nat => ((k % 2 : Nat) : Int)) (Nat.div_div_eq_div_mul n 512 4)) false
  have s1 := step_tri n 1 (bit n 32) (bit n 16) (bit n 8) (bit n 1024) (min 0 (0 + mn ((tri (bit n 256) (bit n 128) (bit n 64) (bit n 2048) false).flatMap Tk.eff))) (0 + ((tri (bit n 256) (bit n 128) (bit n 64) (bit n 2048) false).flatMap Tk.eff).sum) (Int.le_trans (Int.min_le_right _ _) (Int.add_le_add_left (mn_sum _) 0)) (by rw [h3, b2_bit, b2_bit, b2_bit]; exact three_at n 8 32 16 rfl rfl) (by rw [hs, b2_bit]; exact congrArg (fun k : Nat => ((k % 2 : Nat) : Int)) (Nat.div_div_eq_div_mul n 512 2)) false
  have s0 := fun lo en h => step_tri n 0 (bit n 4) (bit n 2) (bit n 1) (bit n 512) lo en h (by rw [h3, b2_bit, b2_bit, b2_bit]; exact three_at n 1 4 2 rfl rfl) (by rw [hs, b2_bit]; exact congrArg (fun k : Nat => ((k % 2 : Nat) : Int)) (Nat.div_div_eq_div_mul n 512 1)) true
  rw [moveOf, s2, s1, s0 _ _ (Int.le_trans (Int.min_le_right _ _) (Int.add_le_add_left (mn_sum _) _)), toksOf_tri, List.flatMap_append, List.flatMap_append, mn_append, mn_append, List.sum_append, List.sum_append, Prod.mk.injEq]
  exact ⟨min3 _ _ _ _ _ (mn_le _), sum3 _ _ _⟩
/-- what a piece says is what its move says -/
theorem read_piece {n : Int} (h : 0 ≤ n) : readOf (pieceOf n) = moveOf n := by
  obtain ⟨m, rfl⟩ := Int.eq_ofNat_of_zero_le h
  rw [read_toks (pieceOf_toks _), moveOf_toks]
end Mine

end
section
open PySem PySem.W PySem.Calls PyProof.Rows
set_option Elab.async false
set_option linter.unusedVariables false
namespace Mine
open PySem.W.X
noncomputable def okL : Int → List (Int × Int) → Bool
  | h, [] => h == 0
  | h, p :: r => decide (0 ≤ h + p.1) && okL (h + p.2) r
theorem cons_erase : ∀ {l : List (Int × Int)} {k : Nat} (h : k < l.length), (l[k] :: l.eraseIdx k).Perm l
  | [], k, h => absurd h (Nat.not_lt_zero _)
  | a :: l, 0, h => .refl _
  | a :: l, k + 1, h => by
    have h' : k < l.length := by simpa using h
    show (l[k] :: a :: l.eraseIdx k).Perm (a :: l)
    exact (List.Perm.swap a _ _).trans ((cons_erase h').cons a)
theorem can_iff : ∀ (n : Nat) (h : Int) (ms : List (Int × Int)), ms.length = n → (canN n h ms = true ↔ ∃ l, l.Perm ms ∧ okL h l = true)
  | 0, h, ms, hl => by
    have e : ms = [] := List.length_eq_zero_iff.mp hl
    subst e
    refine ⟨fun x => ⟨[], .nil, x⟩, fun ⟨l, hp, x⟩ => ?_⟩
    rw [List.perm_nil.mp hp] at x
    exact x
  | n + 1, h, ms, hl => by
    rw [canN, List.any_eq_true]
    constructor
    · rintro ⟨k, hk, x⟩
      have hk' : k < ms.length := List.mem_range.mp hk
      rw [List.getElem?_eq_getElem hk'] at x
      dsimp only at x
      rw [Bool.and_eq_true] at x
      obtain ⟨l, hp, hok⟩ := (can_iff n _ (ms.eraseIdx k) (by rw [List.length_eraseIdx, if_pos hk', hl]; rfl)).mp x.2
      exact ⟨ms[k] :: l, (hp.cons _).trans (cons_erase hk'), by rw [okL, Bool.and_eq_true]; exact ⟨x.1, hok⟩⟩
    · rintro ⟨l, hp, hok⟩
      cases l with
      | nil => have := hp.length_eq; rw [hl] at this; cases this
      | cons p r =>
        obtain ⟨k, hk⟩ := List.getElem?_of_mem (hp.mem_iff.mp (List.mem_cons_self (a := p) (l := r)))
        have hk' : k < ms.length := (List.getElem?_eq_some_iff.mp hk).1
        have hpk : ms[k] = p := (List.getElem?_eq_some_iff.mp hk).2
        rw [okL, Bool.and_eq_true] at hok
        refine ⟨k, List.mem_range.mpr hk', ?_⟩
        rw [hk]
        dsimp only
        rw [Bool.and_eq_true]
        refine ⟨hok.1, (can_iff n _ (ms.eraseIdx k) (by rw [List.length_eraseIdx, if_pos hk', hl]; rfl)).mpr ⟨r, ?_, hok.2⟩⟩
        have h1 := cons_erase hk'
        rw [hpk] at h1
        exact (hp.trans h1.symm).cons_inv
noncomputable def kOf (p : Int × Int) : Int := (rankOf p.1 p.2).1 * 100000 + (rankOf p.1 p.2).2
noncomputable def Bd (p : Int × Int) : Prop := -1000 ≤ p.1 ∧ p.1 ≤ 0 ∧ -1000 ≤ p.2 ∧ p.2 ≤ 1000
theorem swap_ok {h : Int} {x a : Int × Int} {r : List (Int × Int)} (hx : Bd x) (ha : Bd a) (hk : kOf a ≤ kOf x) (ok : okL h (x :: a :: r) = true) : okL h (a :: x :: r) = true := by
  simp only [okL, Bool.and_eq_true, decide_eq_true_eq] at ok ⊢
  obtain ⟨o1, o2, o3⟩ := ok
  obtain ⟨x1, x2⟩ := x
  obtain ⟨a1, a2⟩ := a
  unfold kOf rankOf at hk
  unfold Bd at hx ha
  dsimp only at *
  have e : h + a2 + x2 = h + x2 + a2 := by (first | lia | omega)
  rw [e]
  by_cases h1 : 0 ≤ a2 <;> by_cases h2 : 0 ≤ x2
  · rw [if_pos h1, if_pos h2] at hk; exact ⟨by (first | lia | omega), by (first | lia | omega), o3⟩
  · rw [if_pos h1, if_neg h2] at hk; exact ⟨by (first | lia | omega), by (first | lia | omega), o3⟩
  · rw [if_neg h1, if_pos h2] at hk; exact ⟨by (first | lia | omega), by (first | lia | omega), o3⟩
  · rw [if_neg h1, if_neg h2] at hk; exact ⟨by (first | lia | omega), by (first | lia | omega), o3⟩
theorem front_ok {a : Int × Int} {v : List (Int × Int)} (ha : Bd a) : ∀ (u : List (Int × Int)) (h : Int), (∀ x ∈ u, Bd x ∧ kOf a ≤ kOf x) → okL h (u ++ a :: v) = true → okL h (a :: (u ++ v)) = true
  | [], h, _, ok => ok
  | x :: u, h, hu, ok => by
    rw [List.cons_append, okL, Bool.and_eq_true] at ok
    have ih := front_ok ha u (h + x.2) (fun y hy => hu y (.tail _ hy)) ok.2
    refine swap_ok (hu x (.head _)).1 ha (hu x (.head _)).2 ?_
    rw [okL, Bool.and_eq_true]
    exact ⟨ok.1, ih⟩
theorem greedy : ∀ (l' l : List (Int × Int)) (h : Int), l.Perm l' → (∀ p ∈ l', Bd p) → l'.Pairwise (fun a b => kOf a ≤ kOf b) → okL h l = true → okL h l' = true
  | [], l, h, hp, _, _, ok => by rw [List.perm_nil.mp hp] at ok; exact ok
  | a :: t, l, h, hp, hb, hs, ok => by
    obtain ⟨u, v, rfl⟩ := List.append_of_mem (hp.mem_iff.mpr (List.mem_cons_self (a := a) (l := t)))
    have hs' := List.pairwise_cons.mp hs
    have hin : ∀ x ∈ u, Bd x ∧ kOf a ≤ kOf x := fun x hx => by
      have hm : x ∈ a :: t := hp.mem_iff.mp (List.mem_append_left _ hx)
      refine ⟨hb x hm, ?_⟩
      rcases List.mem_cons.mp hm with rfl | hm
      · exact Int.le_refl _
      · exact hs'.1 x hm
    have o2 := front_ok (hb a (.head _)) u h hin ok
    rw [okL, Bool.and_eq_true] at o2 ⊢
    exact ⟨o2.1, greedy t (u ++ v) _ ((List.perm_middle.symm.trans hp).cons_inv) (fun p hp => hb p (.tail _ hp)) hs'.2 o2.2⟩
noncomputable def mnL : List (Int × Int) → Int
  | [] => 0
  | p :: r => min p.1 (p.2 + mnL r)
noncomputable def smL (ms : List (Int × Int)) : Int := (ms.map (·.2)).sum
theorem okL_eq : ∀ (ms : List (Int × Int)) (h : Int), okL h ms = (decide (0 ≤ h + mnL ms) && (h + smL ms == 0))
  | [], h => by
    have e1 : h + mnL [] = h := by show h + 0 = h; (first | lia | omega)
    have e2 : h + smL [] = h := by show h + 0 = h; (first | lia | omega)
    rw [okL, e1, e2]
    by_cases h0 : h = 0
    · subst h0; rfl
    · rw [beq_eq_false_iff_ne.mpr h0, Bool.and_false]
  | p :: r, h => by
    have e2 : h + smL (p :: r) = h + p.2 + smL r := by show h + (p.2 + _) = _; rw [← Int.add_assoc]; rfl
    rw [okL, okL_eq r, e2, mnL, ← Bool.and_assoc]
    congr 1
    rw [← Bool.decide_and]
    exact decide_eq_decide.mpr (by (first | lia | omega))
/-- a text of tokens with what it says -/
noncomputable def Good (x : Str) (p : Int × Int) : Prop := ∃ T : List Tk, x.cps.toList = T.flatMap Tk.cs ∧ mn (T.flatMap Tk.eff) = p.1 ∧ (T.flatMap Tk.eff).sum = p.2
theorem good_join : ∀ (qs : List (Str × Int × Int)), (∀ q ∈ qs, Good q.1 q.2) → Good (Txt.join (Str.ofString "") (qs.map (·.1))) (mnL (qs.map (·.2)), smL (qs.map (·.2)))
  | [], _ => ⟨[], by rw [join_list_eq]; rfl, rfl, rfl⟩
  | q :: r, h => by
    obtain ⟨T, h1, h2, h3⟩ := h q (.head _)
    obtain ⟨U, k1, k2, k3⟩ := good_join r fun x hx => h x (.tail _ hx)
    refine ⟨T ++ U, ?_, ?_, ?_⟩
    · rw [join_list_eq] at k1 ⊢
      rw [List.map_cons, List.flatMap_cons, h1, k1, List.flatMap_append]
    · rw [List.flatMap_append, mn_append, h2, h3, k2]; rfl
    · rw [List.flatMap_append, List.sum_append, h3, k3]; rfl
theorem good_check {x : Str} {p : Int × Int} (g : Good x p) : checkOf x = (decide (0 ≤ p.1) && (p.2 == 0)) := by
  obtain ⟨T, h1, h2, h3⟩ := g
  rw [check_toks .none (by rw [h1, List.append_nil])]
  show (decide (0 ≤ mn (_ ++ [])) && ((_ ++ []).sum == 0)) = _
  rw [List.append_nil, h2, h3]
theorem app_cps (a b : Str) : (a ++ b).cps.toList = a.cps.toList ++ b.cps.toList := by
  show (a.cps ++ b.cps).toList = _
  rw [Array.toList_append]
theorem good_within {x : Str} {p : Int × Int} (g : Good x p) (h0 : p.2 = 0) : checkOf (Str.ofString "(" ++ x ++ Str.ofString ")") = decide (-1 ≤ p.1) := by
  obtain ⟨T, h1, h2, h3⟩ := g
  have hm := mn_le (T.flatMap Tk.eff)
  rw [check_toks (T := .op :: (T ++ [.cl])) .none (by rw [app_cps, app_cps, h1, List.flatMap_cons, List.flatMap_append, List.append_nil]; rfl)]
  show (decide (0 ≤ mn (_ ++ [])) && ((_ ++ []).sum == 0)) = _
  rw [List.append_nil, List.flatMap_cons, List.flatMap_append]
  show (decide (0 ≤ mn (1 :: (T.flatMap Tk.eff ++ [-1]))) && ((1 :: (T.flatMap Tk.eff ++ [-1])).sum == 0)) = _
  have e2 : (1 :: (T.flatMap Tk.eff ++ [-1])).sum = 0 := by rw [List.sum_cons, List.sum_append, h3, h0]; rfl
  have e1 : mn [-1] = -1 := by decide
  rw [e2, beq_self_eq_true, Bool.and_true, mn, mn_append, h3, h0, e1]
  exact decide_eq_decide.mpr (by (first | lia | omega))
theorem good_open {x : Str} {p : Int × Int} (g : Good x p) (h0 : p.2 = 0) : checkOf (Str.ofString "(" ++ x) = false := by
  obtain ⟨T, h1, h2, h3⟩ := g
  rw [check_toks (T := .op :: T) .none (by rw [app_cps, h1, List.flatMap_cons, List.append_nil]; rfl)]
  show (decide (0 ≤ mn (_ ++ [])) && ((_ ++ []).sum == 0)) = _
  rw [List.append_nil, List.flatMap_cons]
  have e2 : (Tk.op.eff ++ T.flatMap Tk.eff).sum = 1 := by rw [List.sum_append, h3, h0]; rfl
  rw [e2]
  exact Bool.and_false _
theorem good_bs {x : Str} {p : Int × Int} (g : Good x p) (h0 : p.2 = 0) : checkOf (x ++ Str.ofString "\\") = decide (0 ≤ p.1) := by
  obtain ⟨T, h1, h2, h3⟩ := g
  have hm := mn_le (T.flatMap Tk.eff)
  rw [check_toks (T := T) .bs (by rw [app_cps, h1]; rfl)]
  show (decide (0 ≤ mn (_ ++ [0])) && ((_ ++ [0]).sum == 0)) = _
  have e1 : mn [0] = 0 := by decide
  rw [List.sum_append, mn_append, h3, h0, e1]
  show (decide _ && true) = _
  rw [Bool.and_true]
  exact decide_eq_decide.mpr (by (first | lia | omega))
theorem good_two {x : Str} {p : Int × Int} (g : Good x p) (h0 : p.2 = 0) : checkOf (x ++ Str.ofString "\"()") = decide (0 ≤ p.1) := by
  obtain ⟨T, h1, h2, h3⟩ := g
  have hm := mn_le (T.flatMap Tk.eff)
  rw [check_toks (T := T) .two (by rw [app_cps, h1]; rfl)]
  show (decide (0 ≤ mn (_ ++ [0, 1, -1])) && ((_ ++ [0, 1, -1]).sum == 0)) = _
  have e1 : mn [0, 1, -1] = 0 := by decide
  rw [List.sum_append, mn_append, h3, h0, e1]
  show (decide _ && true) = _
  rw [Bool.and_true]
  exact decide_eq_decide.mpr (by (first | lia | omega))
theorem good_one {x : Str} {p : Int × Int} (g : Good x p) (h0 : p.2 = 0) : checkOf (x ++ Str.ofString "\"(") = false := by
  obtain ⟨T, h1, h2, h3⟩ := g
  rw [check_toks (T := T) .one (by rw [app_cps, h1]; rfl)]
  show (decide (0 ≤ mn (_ ++ [0, 1])) && ((_ ++ [0, 1]).sum == 0)) = _
  rw [List.sum_append, h3, h0]
  exact Bool.and_false _
theorem heights_cons (p : Int × Int) (r : List (Int × Int)) : heightsOf (p :: r) = p.1 :: (heightsOf r).map (p.2 + ·) := by
  unfold heightsOf
  rw [List.length_cons, List.range_succ_eq_map, List.map_cons, List.map_map, List.map_map]
  congr 1
  · show (List.map _ (List.take 0 _)).sum + _ = _
    rw [List.take_zero]; show 0 + p.1 = p.1; (first | lia | omega)
  · refine List.map_congr_left fun k _ => ?_
    show ((List.take (k + 1) (p :: r)).map _).sum + _ = _
    rw [List.take_succ_cons, List.map_cons, List.sum_cons]
    show p.2 + _ + (List.getD (p :: r) (k + 1) default).1 = p.2 + (_ + (List.getD r k default).1)
    rw [Int.add_assoc]; rfl
theorem mnL_le : ∀ (ms : List (Int × Int)), (∀ a ∈ heightsOf ms, mnL ms ≤ a) ∧ mnL ms ≤ smL ms
  | [] => ⟨fun a h => absurd h (by simp [heightsOf]), Int.le_refl _⟩
  | p :: r => by
    obtain ⟨h1, h2⟩ := mnL_le r
    have e : smL (p :: r) = p.2 + smL r := rfl
    rw [heights_cons, e, mnL]
    refine ⟨fun a ha => ?_, by (first | lia | omega)⟩
    rcases List.mem_cons.mp ha with rfl | ha
    · (first | lia | omega)
    · obtain ⟨b, hb, rfl⟩ := List.mem_map.mp ha
      have := h1 b hb
      (first | lia | omega)
theorem mnL_mem : ∀ (ms : List (Int × Int)), mnL ms ∈ heightsOf ms ∨ mnL ms = smL ms
  | [] => .inr rfl
  | p :: r => by
    have e : smL (p :: r) = p.2 + smL r := rfl
    rw [heights_cons, e, mnL]
    by_cases h : p.1 ≤ p.2 + mnL r
    · rw [Int.min_eq_left h]; exact .inl (.head _)
    · rw [Int.min_eq_right (by (first | lia | omega))]
      rcases mnL_mem r with h1 | h1
      · exact .inl (.tail _ (List.mem_map.mpr ⟨_, h1, rfl⟩))
      · exact .inr (by rw [h1])
theorem low_eq {ms : List (Int × Int)} {lo : Int} (hne : ms ≠ []) (hb : ∀ p ∈ ms, p.1 ≤ 0) (h0 : smL ms = 0) (h1 : lo ∈ heightsOf ms) (h2 : ∀ a ∈ heightsOf ms, lo ≤ a) : lo = mnL ms := by
  have a1 := (mnL_le ms).1 lo h1
  cases ms with
  | nil => exact absurd rfl hne
  | cons p r =>
    have hp := hb p (.head _)
    have a2 : lo ≤ p.1 := h2 _ (by rw [heights_cons]; exact .head _)
    rcases mnL_mem (p :: r) with h3 | h3
    · have := h2 _ h3; (first | lia | omega)
    · rw [h0] at h3; (first | lia | omega)
theorem heights_snoc (mv : List (Int × Int)) (l : Int × Int) : heightsOf (mv ++ [l]) = heightsOf mv ++ [smL mv + l.1] := by
  unfold heightsOf smL
  rw [List.length_append, List.length_singleton, List.range_succ, List.map_append, List.map_cons, List.map_nil]
  congr 1
  · refine List.map_congr_left fun k hk => ?_
    have hk' : k < mv.length := List.mem_range.mp hk
    rw [List.take_append_of_le_length (by (first | lia | omega))]
    simp [List.getD, List.getElem?_append_left hk']
  · rw [List.take_append_of_le_length (Nat.le_refl _), List.take_length]
    simp [List.getD]
end Mine

end
section
open PySem PySem.W PySem.Calls PyProof.Rows
set_option Elab.async false
set_option linter.unusedVariables false
namespace Mine
open PySem.W.X
/-- a text of k tokens at most, with what it says -/
noncomputable def GoodN (k : Nat) (x : Str) (p : Int × Int) : Prop := ∃ T : List Tk, T.length ≤ k ∧ x.cps.toList = T.flatMap Tk.cs ∧ mn (T.flatMap Tk.eff) = p.1 ∧ (T.flatMap Tk.eff).sum = p.2
theorem GoodN.good {k : Nat} {x : Str} {p : Int × Int} (g : GoodN k x p) : Good x p := let ⟨T, _, r⟩ := g; ⟨T, r⟩
theorem Good.read {x : Str} {p : Int × Int} (g : Good x p) : readOf x = p := by
  obtain ⟨T, h1, h2, h3⟩ := g
  rw [read_toks h1, h2, h3]
theorem toks_asc : ∀ (T : List Tk), ∀ c ∈ T.flatMap Tk.cs, c < 128 := fun T c hc => by
  obtain ⟨t, _, h⟩ := List.mem_flatMap.mp hc
  cases t <;> (simp only [Tk.cs, List.mem_cons, List.not_mem_nil, or_false] at h; (first | lia | omega))
theorem toks_len : ∀ (T : List Tk), (T.flatMap Tk.cs).length ≤ 4 * T.length
  | [] => Nat.le_refl _
  | t :: T => by
    have h := toks_len T
    have h2 : t.cs.length ≤ 4 := by cases t <;> decide
    rw [List.flatMap_cons, List.length_append, List.length_cons]; (first | lia | omega)
theorem Good.asc {x : Str} {p : Int × Int} (g : Good x p) : Asc x := fun c hc => by
  obtain ⟨T, h1, _⟩ := g
  exact toks_asc T c (h1 ▸ hc)
theorem GoodN.len {k : Nat} {x : Str} {p : Int × Int} (g : GoodN k x p) : x.length ≤ 4 * k := by
  obtain ⟨T, h0, h1, _⟩ := g
  have := toks_len T
  have e : x.length = (T.flatMap Tk.cs).length := by show x.cps.size = _; rw [← Array.length_toList, h1]
  (first | lia | omega)
theorem tri_len : ∀ (r w x s top : Bool), (tri r w x s top).length ≤ 3 := by decide
theorem piece_good {n : Int} (h : 0 ≤ n) : GoodN 12 (pieceOf n) (moveOf n) := by
  obtain ⟨m, rfl⟩ := Int.eq_ofNat_of_zero_le h
  refine ⟨toksOf m, ?_, pieceOf_toks _, by rw [moveOf_toks], by rw [moveOf_toks]⟩
  have a := tri_len (bit m 256) (bit m 128) (bit m 64) (bit m 2048) false
  have b := tri_len (bit m 32) (bit m 16) (bit m 8) (bit m 1024) false
  have c := tri_len (bit m 4) (bit m 2) (bit m 1) (bit m 512) true
  rw [toksOf_tri, List.length_append, List.length_append]; (first | lia | omega)
theorem b2_bd (b : Bool) : 0 ≤ b2 b ∧ b2 b ≤ 1 := by cases b <;> decide
theorem tri_bd : ∀ (r w x s top : Bool), -2 ≤ mn ((tri r w x s top).flatMap Tk.eff) ∧ mn ((tri r w x s top).flatMap Tk.eff) ≤ 0 ∧ -1 ≤ ((tri r w x s top).flatMap Tk.eff).sum ∧ ((tri r w x s top).flatMap Tk.eff).sum ≤ 1 := by decide
theorem move_bd {n : Int} (h : 0 ≤ n) : (-100 ≤ (moveOf n).1 ∧ (moveOf n).1 ≤ 0) ∧ (-3 ≤ (moveOf n).2 ∧ (moveOf n).2 ≤ 3) := by
  obtain ⟨m, rfl⟩ := Int.eq_ofNat_of_zero_le h
  rw [moveOf_toks, toksOf_tri, List.flatMap_append, List.flatMap_append, mn_append, mn_append, List.sum_append, List.sum_append]
  obtain ⟨a1, a2, a3, a4⟩ := tri_bd (bit m 256) (bit m 128) (bit m 64) (bit m 2048) false
  obtain ⟨b1, b2, b3, b4⟩ := tri_bd (bit m 32) (bit m 16) (bit m 8) (bit m 1024) false
  obtain ⟨c1, c2, c3, c4⟩ := tri_bd (bit m 4) (bit m 2) (bit m 1) (bit m 512) true
  rw [add_min']
  exact ⟨⟨Int.le_min.mpr ⟨by (first | lia | omega), Int.le_min.mpr ⟨by (first | lia | omega), by (first | lia | omega)⟩⟩, Int.le_trans (Int.min_le_left _ _) a2⟩, by (first | lia | omega), by (first | lia | omega)⟩
theorem reps_eq (c : Nat) : ∀ (k : Nat) (acc : Array Nat), ((List.replicate k (#[c] : Array Nat)).foldl (· ++ ·) acc).toList = acc.toList ++ List.replicate k c
  | 0, acc => by simp
  | k + 1, acc => by rw [List.replicate_succ, List.foldl_cons, reps_eq c k, Array.toList_append, List.replicate_succ]; simp
theorem mul_cps (c : Nat) (W : Int) : (Txt.mul (⟨#[c]⟩ : Str) W).cps.toList = List.replicate W.toNat c := by
  unfold Txt.mul
  by_cases h : W < 1
  · rw [if_pos h]
    have : W.toNat = 0 := by (first | lia | omega)
    rw [this]; rfl
  · rw [if_neg h]
    split
    · rename_i h2
      have h3 : W = 1 := by
        rw [Bool.or_eq_true, beq_iff_eq, beq_iff_eq] at h2
        rcases h2 with h2 | h2
        · exact h2
        · exact absurd (show (1 : Nat) = 0 from h2) (by decide)
      rw [h3]; rfl
    · show ((List.replicate W.toNat (#[c] : Array Nat)).foldl (· ++ ·) #[]).toList = _
      rw [reps_eq]; rfl
theorem rep_cs (t : Tk) (c : Nat) (h : t.cs = [c]) : ∀ k : Nat, (List.replicate k t).flatMap Tk.cs = List.replicate k c
  | 0 => rfl
  | k + 1 => by rw [List.replicate_succ, List.flatMap_cons, h, rep_cs t c h k]; rfl
theorem rep_cl : ∀ k : Nat, mn ((List.replicate k Tk.cl).flatMap Tk.eff) = -(k : Int) ∧ ((List.replicate k Tk.cl).flatMap Tk.eff).sum = -(k : Int)
  | 0 => ⟨rfl, rfl⟩
  | k + 1 => by
    obtain ⟨a, b⟩ := rep_cl k
    rw [List.replicate_succ, List.flatMap_cons, List.sum_append, mn_append, a, b]
    have e1 : mn Tk.cl.eff = -1 := by decide
    have e2 : Tk.cl.eff.sum = -1 := by decide
    rw [e1, e2]; (first | lia | omega)
theorem rep_op : ∀ k : Nat, mn ((List.replicate k Tk.op).flatMap Tk.eff) = 0 ∧ ((List.replicate k Tk.op).flatMap Tk.eff).sum = (k : Int)
  | 0 => ⟨rfl, rfl⟩
  | k + 1 => by
    obtain ⟨a, b⟩ := rep_op k
    rw [List.replicate_succ, List.flatMap_cons, List.sum_append, mn_append, a, b]
    have e1 : mn Tk.op.eff = 0 := by decide
    have e2 : Tk.op.eff.sum = 1 := by decide
    rw [e1, e2]; (first | lia | omega)
theorem last_good {W : Int} (h : -12 ≤ W ∧ W ≤ 12) : GoodN 12 (lastP W) (minOf 0 (-W), -W) := by
  refine ⟨List.replicate W.toNat .cl ++ List.replicate (-W).toNat .op, ?_, ?_, ?_, ?_⟩
  · rw [List.length_append, List.length_replicate, List.length_replicate]; (first | lia | omega)
  · have e1 : Str.ofString ")" = ⟨#[41]⟩ := by decide
    have e2 : Str.ofString "(" = ⟨#[40]⟩ := by decide
    rw [lastP, app_cps, e1, e2, mul_cps, mul_cps, List.flatMap_append, rep_cs .cl 41 rfl, rep_cs .op 40 rfl]
  · rw [List.flatMap_append, mn_append, (rep_cl _).1, (rep_cl _).2, (rep_op _).1]
    unfold minOf; split <;> (first | lia | omega)
  · rw [List.flatMap_append, List.sum_append, (rep_cl _).2, (rep_op _).2]; (first | lia | omega)
noncomputable def lawXs (ns : List Int) : List Int := (lawNums ns).map (·.fmod 65536)
noncomputable def lawMv (ns : List Int) : List (Int × Int) := (lawXs ns).map moveOf
noncomputable def lawW (ns : List Int) : Int := ((lawMv ns).map (·.2)).sum
noncomputable def lawPs (ns : List Int) : List Str := (lawXs ns).map pieceOf ++ [lastP (lawW ns)]
noncomputable def lawQs (ns : List Int) : List (Str × Int × Int) := (lawPs ns).map fun p => (p, readOf p)
noncomputable def lawMs (ns : List Int) : List (Int × Int) := lawMv ns ++ [(minOf 0 (-lawW ns), -lawW ns)]
section
variable (ns : List Int)
theorem xs_len : 2 ≤ (lawXs ns).length ∧ (lawXs ns).length ≤ 4 := by
  have h : (ns.take 2).length ≤ 2 := by rw [List.length_take]; (first | lia | omega)
  rw [lawXs, List.length_map, lawNums]
  split <;> (rw [List.length_append]; simp only [List.length_cons, List.length_nil]; (first | lia | omega))
theorem xs_bd : ∀ x ∈ lawXs ns, 0 ≤ x ∧ x < 65536 := fun x hx => by
  obtain ⟨y, _, rfl⟩ := List.mem_map.mp hx
  rw [Int.fmod_eq_emod_of_nonneg _ (by decide)]
  (first | lia | omega)
theorem sum_bd : ∀ (l : List (Int × Int)), (∀ p ∈ l, -3 ≤ p.2 ∧ p.2 ≤ 3) → -3 * (l.length : Int) ≤ (l.map (·.2)).sum ∧ (l.map (·.2)).sum ≤ 3 * (l.length : Int)
  | [], _ => by simp
  | p :: r, h => by
    have a := h p (.head _)
    have b := sum_bd r fun q hq => h q (.tail _ hq)
    rw [List.map_cons, List.sum_cons, List.length_cons]; push_cast; (first | lia | omega)
theorem W_bd : -12 ≤ lawW ns ∧ lawW ns ≤ 12 := by
  have h := sum_bd (lawMv ns) fun p hp => by
    obtain ⟨x, hx, rfl⟩ := List.mem_map.mp hp
    exact (move_bd (xs_bd ns x hx).1).2
  have hl : (lawMv ns).length ≤ 4 := by rw [lawMv, List.length_map]; exact (xs_len ns).2
  rw [lawW]; (first | lia | omega)
theorem ps_good : ∀ p ∈ lawPs ns, ∃ m, GoodN 12 p m := fun p hp => by
  rcases List.mem_append.mp hp with h | h
  · obtain ⟨x, hx, rfl⟩ := List.mem_map.mp h
    exact ⟨_, piece_good (xs_bd ns x hx).1⟩
  · rw [List.mem_singleton.mp h]; exact ⟨_, last_good (W_bd ns)⟩
theorem ps_ok : ∀ p ∈ lawPs ns, Asc p ∧ p.length ≤ 48 := fun p hp => by
  obtain ⟨m, g⟩ := ps_good ns p hp
  exact ⟨g.good.asc, g.len⟩
theorem qs_good : ∀ q ∈ lawQs ns, GoodN 12 q.1 q.2 := fun q hq => by
  obtain ⟨p, hp, rfl⟩ := List.mem_map.mp hq
  obtain ⟨m, g⟩ := ps_good ns p hp
  have := g.good.read
  dsimp only
  rw [this]; exact g
theorem qs_ms : (lawQs ns).map (·.2) = lawMs ns := by
  have e1 : (lawXs ns).map (fun x => readOf (pieceOf x)) = (lawXs ns).map moveOf := List.map_congr_left fun x hx => (piece_good (xs_bd ns x hx).1).good.read
  have e2 : readOf (lastP (lawW ns)) = (minOf 0 (-lawW ns), -lawW ns) := (last_good (W_bd ns)).good.read
  rw [lawQs, List.map_map, lawPs, List.map_append, List.map_map, lawMs, lawMv, ← e1, ← e2]
  simp only [Function.comp_def, List.map_cons, List.map_nil]
theorem qs_fst : (lawQs ns).map (·.1) = lawPs ns := by
  rw [lawQs, List.map_map]
  exact List.map_id _
theorem ms_bd : ∀ p ∈ lawMs ns, Bd p := fun p hp => by
  have hW := W_bd ns
  rcases List.mem_append.mp hp with h | h
  · obtain ⟨x, hx, rfl⟩ := List.mem_map.mp h
    have := move_bd (xs_bd ns x hx).1
    exact ⟨by (first | lia | omega), by (first | lia | omega), by (first | lia | omega), by (first | lia | omega)⟩
  · rw [List.mem_singleton.mp h]
    refine ⟨?_, ?_, ?_, ?_⟩ <;> (try unfold minOf) <;> (try split) <;> (try dsimp only) <;> (first | lia | omega)
theorem ms_sum : smL (lawMs ns) = 0 := by
  rw [smL, lawMs, List.map_append, List.sum_append]
  show lawW ns + (-lawW ns + 0) = 0
  (first | lia | omega)
theorem ps_len : (lawPs ns).length = (lawXs ns).length + 1 := by rw [lawPs, List.length_append, List.length_map]; rfl
theorem ms_len : (lawMs ns).length = (lawXs ns).length + 1 := by rw [lawMs, List.length_append, lawMv, List.length_map]; rfl
theorem qs_len : (lawQs ns).length = (lawXs ns).length + 1 := by rw [lawQs, List.length_map, ps_len]
end
theorem getD_range {α : Type} [Inhabited α] (l : List α) : (List.range l.length).map (fun i => l.getD i default) = l := by
  refine List.ext_getElem (by simp) fun i h1 h2 => ?_
  simp [h2]
theorem sorted_perm {qs : List (Str × Int × Int)} (h3 : 3 ≤ qs.length) (h5 : qs.length ≤ 5) : (sortedOf qs).Perm qs := by
  have h := (order_ok h3 h5).1.map fun i => qs.getD i default
  rw [getD_range] at h
  exact h
theorem sorted_sorted {qs : List (Str × Int × Int)} (h3 : 3 ≤ qs.length) (h5 : qs.length ≤ 5) : ((sortedOf qs).map (·.2)).Pairwise fun a b => kOf a ≤ kOf b := by
  rw [List.pairwise_map, sortedOf, List.pairwise_map]
  exact (order_ok h3 h5).2
theorem join_asc {ys : List Str} (h : ∀ y ∈ ys, Asc y) : Asc (Txt.join (Str.ofString "") ys) := fun c hc => by
  rw [join_list_eq] at hc
  obtain ⟨y, hy, hc⟩ := List.mem_flatMap.mp hc
  exact h y hy c hc
theorem join_len (ys : List Str) (h : ∀ y ∈ ys, y.length ≤ 48) : (Txt.join (Str.ofString "") ys).length ≤ 48 * ys.length := by
  have e : (Txt.join (Str.ofString "") ys).length = (ys.flatMap (·.cps.toList)).length := by
    show (Txt.join (Str.ofString "") ys).cps.size = _
    rw [← Array.length_toList, join_list_eq]
  rw [e]
  clear e
  induction ys with
  | nil => exact Nat.le_refl _
  | cons y r ih =>
    have a := h y (.head _)
    have b := ih fun q hq => h q (.tail _ hq)
    have c : y.cps.toList.length = y.length := Array.length_toList
    rw [List.flatMap_cons, List.length_append, List.length_cons]; (first | lia | omega)
theorem app_asc {a b : Str} (ha : Asc a) (hb : Asc b) : Asc (a ++ b) := fun c hc => by
  rw [app_cps] at hc
  exact (List.mem_append.mp hc).elim (ha c) (hb c)
noncomputable def lawText (ns : List Int) : Str := Txt.join (Str.ofString "") (lawPs ns)
noncomputable def lawBest (ns : List Int) : Str := Txt.join (Str.ofString "") ((sortedOf (lawQs ns)).map (·.1))
noncomputable def lawInit (ns : List Int) : Str := Txt.join (Str.ofString "") ((lawPs ns).take ((lawPs ns).length - 1))
noncomputable def lawAsked (ns : List Int) : List Str := [lawText ns, Str.ofString "(" ++ lawText ns ++ Str.ofString ")", lawInit ns, lawBest ns, Str.ofString "(" ++ lawBest ns]
noncomputable def lawMore (ns : List Int) : List Str := [lawText ns ++ Str.ofString "\\", lawBest ns ++ Str.ofString "\\", lawBest ns ++ Str.ofString "\"()", lawBest ns ++ Str.ofString "\"("]
section
variable (ns : List Int)
theorem text_good : Good (lawText ns) (mnL (lawMs ns), 0) := by
  have h := good_join (lawQs ns) fun q hq => (qs_good ns q hq).good
  rw [qs_fst, qs_ms, ms_sum] at h
  exact h
theorem init_good : Good (lawInit ns) (mnL (lawMv ns), lawW ns) := by
  have e : (lawPs ns).take ((lawPs ns).length - 1) = ((lawXs ns).map fun x => (pieceOf x, moveOf x)).map (·.1) := by
    rw [ps_len, Nat.add_sub_cancel, lawPs, List.map_map, List.take_append_of_le_length (by rw [List.length_map]; exact Nat.le_refl _), List.take_of_length_le (by rw [List.length_map]; exact Nat.le_refl _)]
    rfl
  have h := good_join ((lawXs ns).map fun x => (pieceOf x, moveOf x)) fun q hq => by
    obtain ⟨x, hx, rfl⟩ := List.mem_map.mp hq
    exact (piece_good (xs_bd ns x hx).1).good
  have e2 : ((lawXs ns).map fun x => (pieceOf x, moveOf x)).map (·.2) = lawMv ns := by rw [List.map_map]; rfl
  rw [e2] at h
  rw [lawInit, e]
  exact h
theorem qs35 : 3 ≤ (lawQs ns).length ∧ (lawQs ns).length ≤ 5 := by have := xs_len ns; rw [qs_len]; (first | lia | omega)
theorem best_perm : ((sortedOf (lawQs ns)).map (·.2)).Perm (lawMs ns) := by
  have h := (sorted_perm (qs35 ns).1 (qs35 ns).2).map fun q => q.2
  rw [qs_ms] at h
  exact h
theorem best_sum : smL ((sortedOf (lawQs ns)).map (·.2)) = 0 := by
  have : ∀ {a b : List (Int × Int)}, a.Perm b → smL a = smL b := fun h => by
    induction h with
    | nil => rfl
    | cons x _ ih => show _ + smL _ = _ + smL _; rw [ih]
    | swap x y l => show y.2 + (x.2 + smL l) = x.2 + (y.2 + smL l); (first | lia | omega)
    | trans _ _ h1 h2 => exact h1.trans h2
  rw [this (best_perm ns), ms_sum]
theorem best_good : Good (lawBest ns) (mnL ((sortedOf (lawQs ns)).map (·.2)), 0) := by
  have h := good_join (sortedOf (lawQs ns)) fun q hq => (qs_good ns q ((sorted_perm (qs35 ns).1 (qs35 ns).2).mem_iff.mp hq)).good
  rw [best_sum] at h
  exact h
theorem best_able : decide (0 ≤ mnL ((sortedOf (lawQs ns)).map (·.2))) = canN (lawMs ns).length 0 (lawMs ns) := by
  have e := okL_eq ((sortedOf (lawQs ns)).map (·.2)) 0
  rw [best_sum, Int.zero_add, Int.zero_add, beq_self_eq_true, Bool.and_true] at e
  rw [← e]
  have hp := best_perm ns
  rw [Bool.eq_iff_iff, can_iff _ 0 (lawMs ns) rfl]
  refine ⟨fun h => ⟨_, hp, h⟩, fun ⟨l, hl, ok⟩ => ?_⟩
  exact greedy _ l 0 (hl.trans hp.symm) (fun p h => ms_bd ns p (hp.mem_iff.mp h)) (sorted_sorted (qs35 ns).1 (qs35 ns).2) ok
theorem plain_asked {lo li : Int} (h1 : lo ∈ heightsOf (lawMs ns)) (h2 : ∀ a ∈ heightsOf (lawMs ns), lo ≤ a) (h3 : li ∈ (heightsOf (lawMs ns)).take ((heightsOf (lawMs ns)).length - 1)) (h4 : ∀ a ∈ (heightsOf (lawMs ns)).take ((heightsOf (lawMs ns)).length - 1), li ≤ a) :
    (lawAsked ns).map checkOf = [decide (0 ≤ lo), decide (-1 ≤ lo), decide (0 ≤ li) && decide (lawW ns = 0), canN (lawMs ns).length 0 (lawMs ns), false] := by
  have hlo := low_eq (ms := lawMs ns) (by rw [lawMs]; simp) (fun p hp => (ms_bd ns p hp).2.1) (ms_sum ns) h1 h2
  have hh : (heightsOf (lawMs ns)).take ((heightsOf (lawMs ns)).length - 1) = heightsOf (lawMv ns) := by
    rw [lawMs, heights_snoc, List.length_append, List.length_singleton, Nat.add_sub_cancel, List.take_append_of_le_length (Nat.le_refl _), List.take_length]
  rw [hh] at h3 h4
  have hi : checkOf (lawInit ns) = (decide (0 ≤ li) && decide (lawW ns = 0)) := by
    rw [good_check (init_good ns)]
    dsimp only
    by_cases hW : lawW ns = 0
    · have e := low_eq (ms := lawMv ns) (lo := li) (fun z => by have := (xs_len ns).1; rw [lawMv, List.map_eq_nil_iff] at z; rw [z] at this; simp at this) (fun p hp => (ms_bd ns p (List.mem_append_left _ hp)).2.1) hW h3 h4
      rw [← e, hW]; rfl
    · rw [beq_eq_false_iff_ne.mpr hW, decide_eq_false hW, Bool.and_false, Bool.and_false]
  rw [lawAsked, List.map_cons, List.map_cons, List.map_cons, List.map_cons, List.map_cons, List.map_nil, hi, good_check (text_good ns), good_within (text_good ns) rfl, good_check (best_good ns), good_open (best_good ns) rfl, ← hlo]
  dsimp only
  rw [beq_self_eq_true, Bool.and_true, Bool.and_true, best_able]
theorem plain_more {lo : Int} (h1 : lo ∈ heightsOf (lawMs ns)) (h2 : ∀ a ∈ heightsOf (lawMs ns), lo ≤ a) :
    (lawMore ns).map checkOf = [decide (0 ≤ lo), canN (lawMs ns).length 0 (lawMs ns), canN (lawMs ns).length 0 (lawMs ns), false] := by
  have hlo := low_eq (ms := lawMs ns) (by rw [lawMs]; simp) (fun p hp => (ms_bd ns p hp).2.1) (ms_sum ns) h1 h2
  rw [lawMore, List.map_cons, List.map_cons, List.map_cons, List.map_cons, List.map_nil, good_bs (text_good ns) rfl, good_bs (best_good ns) rfl, good_two (best_good ns) rfl, good_one (best_good ns) rfl, ← hlo]
  dsimp only
  rw [best_able]
theorem text_len : (lawText ns).length ≤ 240 := by
  have h := join_len (lawPs ns) fun p hp => (ps_ok ns p hp).2
  have := (xs_len ns).2
  rw [ps_len] at h
  rw [lawText]; (first | lia | omega)
theorem best_len : (lawBest ns).length ≤ 240 := by
  have hs := sorted_perm (qs35 ns).1 (qs35 ns).2
  have h := join_len ((sortedOf (lawQs ns)).map (·.1)) fun p hp => by
    obtain ⟨q, hq, rfl⟩ := List.mem_map.mp hp
    exact (qs_good ns q (hs.mem_iff.mp hq)).len
  rw [List.length_map, hs.length_eq] at h
  have := (qs35 ns).2
  rw [lawBest]; (first | lia | omega)
theorem init_len : (lawInit ns).length ≤ 240 := by
  have h := join_len ((lawPs ns).take ((lawPs ns).length - 1)) fun p hp => (ps_ok ns p (List.mem_of_mem_take hp)).2
  have := (xs_len ns).2
  rw [List.length_take, ps_len] at h
  rw [lawInit, ps_len]; (first | lia | omega)
theorem asked_ok : ∀ x ∈ lawAsked ns, Asc x ∧ x.length ≤ 1000 := by
  have a1 := (text_good ns).asc
  have a2 := (best_good ns).asc
  have a3 := (init_good ns).asc
  have l1 := text_len ns
  have l2 := best_len ns
  have l3 := init_len ns
  have o1 : Asc (Str.ofString "(") := by unfold Asc; decide
  have o2 : Asc (Str.ofString ")") := by unfold Asc; decide
  have c1 : (Str.ofString "(").length = 1 := by decide
  have c2 : (Str.ofString ")").length = 1 := by decide
  intro x hx
  simp only [lawAsked, List.mem_cons, List.not_mem_nil, or_false] at hx
  rcases hx with rfl | rfl | rfl | rfl | rfl
  · exact ⟨a1, by (first | lia | omega)⟩
  · exact ⟨app_asc (app_asc o1 a1) o2, by rw [Str.length_append, Str.length_append]; (first | lia | omega)⟩
  · exact ⟨a3, by (first | lia | omega)⟩
  · exact ⟨a2, by (first | lia | omega)⟩
  · exact ⟨app_asc o1 a2, by rw [Str.length_append]; (first | lia | omega)⟩
theorem more_ok : ∀ x ∈ lawMore ns, Asc x ∧ x.length ≤ 1000 := by
  have a1 := (text_good ns).asc
  have a2 := (best_good ns).asc
  have l1 := text_len ns
  have l2 := best_len ns
  have o1 : Asc (Str.ofString "\\") := by unfold Asc; decide
  have o2 : Asc (Str.ofString "\"()") := by unfold Asc; decide
  have o3 : Asc (Str.ofString "\"(") := by unfold Asc; decide
  have c1 : (Str.ofString "\\").length = 1 := by decide
  have c2 : (Str.ofString "\"()").length = 3 := by decide
  have c3 : (Str.ofString "\"(").length = 2 := by decide
  intro x hx
  simp only [lawMore, List.mem_cons, List.not_mem_nil, or_false] at hx
  rcases hx with rfl | rfl | rfl | rfl
  · exact ⟨app_asc a1 o1, by rw [Str.length_append]; (first | lia | omega)⟩
  · exact ⟨app_asc a2 o1, by rw [Str.length_append]; (first | lia | omega)⟩
  · exact ⟨app_asc a2 o2, by rw [Str.length_append]; (first | lia | omega)⟩
  · exact ⟨app_asc a2 o3, by rw [Str.length_append]; (first | lia | omega)⟩
end
end Mine

end
section
open PySem PySem.W PySem.Calls PyProof.Rows
set_option Elab.async false
set_option linter.unusedVariables false
namespace Mine
open PySem.W.X
set_option maxRecDepth 100000 in
set_option maxHeartbeats 8000000 in
theorem law_spec : ∀ (w : World) (mg mb : Str → Option Value) (s : Shared) (Q E : Value → Shared → Prop) (l : Addr) (ns : List Int), (Mine.K2 w.params).In s.heap → TopRead Mine.myView LS mg mb s.heap → s.heap.get? 37 = some (tableObj #[]) → Ints l ns s.heap → ns.length ≤ 63 →
    (∀ s' : Shared, Up (fun b => b = 37) s.heap s'.heap → (∃ ps, s'.heap.get? 37 = some (tableObj ps)) → GOk s.gens s'.gens → s'.os = s.os → Q (.bool true) s') →
    wpAny (model PySem.Challenge.rw_om0053_01.prog w) (AA 8) (call (.ref 146) [.ref l]) Q E s := by
  k_fill
  intro w mg mb s Q E l ns X T h37 hl hlen hret
  refine wpAny_call ?_
  k_dflt (refine' call_cellsN (binds := [(Str.ofString "script", .ref l)]) ?k1 ?k2 ?k3 ?k4 ?k5 ?k6 ?k7 ?k8 ?_ ?c1 ?c2 ?c3; (case k2 => exact X _ _ (by k_is)); (case k3 => exact rfl); (case k1 => decide); (case k4 => exact T.nolimit); (case k5 => exact codeRec_of X (by k_is)); (case k6 => exact rfl); (case k7 => exact kindsX rfl _); (case k8 => decide); (case c1 => exact rfl); (case c2 => exact rfl); (case c3 => exact rfl))
  intro h1 tk1 cells F1 N1 Y1
  k_fold
  obtain ⟨oc, rfl, dc⟩ := CellsAre.one (n := Str.ofString "ways") (c := s.heap.objs.size + 1) Y1
  replace dc : oc.data = .cell none := dc
  have nc := N1 _ (List.Mem.head _)
  have kp1 : Kp s.heap h1 := F1.keep
  have Y0 : LawAt s s.heap.objs.size (s.heap.objs.size + 1) #[] _ none { s with heap := h1, toks := tk1 } :=
    ⟨.of_kp kp1, F1.ns, ⟨oc, nc.1, dc⟩, get_size _, nc.2.2, Ne.symm nc.2.1, kp1 _ _ h37, GOk.refl _, rfl, rfl⟩
  change wpAny _ _ (execs (lawBody.drop 0) (lawEnv s.heap.objs.size _)) _ _ _
  generalize hA : (AA 8).deeper _ = A
  have hh : A.handled = none := by rw [← hA]; rfl
  have hd : A.depth ≤ 640 := by rw [← hA]; exact Nat.le_of_ble_eq_true rfl
  have hu : A.units ≤ 4000 := by rw [← hA]; exact Nat.le_of_ble_eq_true rfl
  clear hA Y1 N1 F1
  have hxs := xs_len ns
  have hxb := xs_bd ns
  have hWb := W_bd ns
  with_reducible refine law_0 X T hh Y0 (l := l) (ns := ns) rfl (hl.keep kp1) hlen fun s1 m1 a1 Y1 hm1 hk1 u1 f1 => ?_
  refine law_1 hh Y1 hm1 f1.here (by rw [lawXs, List.length_map] at hxs; exact hxs.2) fun s2 m2 a2 Y2 hm2 hk2 u2 f2 => ?_
  have i2 : Ints a2 (lawXs ns) s2.heap := f2.here
  with_reducible refine law_2 X T hh hd hu Y2 hm2 i2 hxs.2 fun s3 m3 a3 Y3 hm3 hk3 u3 f3 => ?_
  have v3 : MovesAt s3.heap a3 (lawMv ns) := f3.here
  have i3 : Ints a2 (lawXs ns) s3.heap := Y2.ints_up u3 i2
  have hmv4 : (lawMv ns).length ≤ 4 := by rw [lawMv, List.length_map]; exact hxs.2
  with_reducible refine law_3 X T hh Y3 hm3 v3 hmv4 fun s4 m4 t4 Y4 hm4 hk4 u4 => ?_
  have i4 : Ints a2 (lawXs ns) s4.heap := Y3.ints_up u4 i3
  have v4 : MovesAt s4.heap a3 (lawMv ns) := Y3.moves_up u4 v3
  refine law_4 X T hh hd hu Y4 ((hk4 _ (by decide)).trans ((hk3 _ (by decide)).trans hm2)) i4 hxs.2 hxb hm4 (by have : ((lawMv ns).map (·.2)).sum = lawW ns := rfl; (first | lia | omega)) fun s5 m5 a5 Y5 hm5 hk5 u5 f5 => ?_
  have p5 : Strs a5 (lawPs ns) s5.heap := f5.here
  have v5 : MovesAt s5.heap a3 (lawMv ns) := Y4.moves_up u5 v4
  have hpl : (lawPs ns).length ≤ 5 := by rw [ps_len]; (first | lia | omega)
  have hp1 : ∀ p ∈ lawPs ns, Asc p ∧ p.length ≤ 1000 := fun p hp => ⟨(ps_ok ns p hp).1, by have := (ps_ok ns p hp).2; (first | lia | omega)⟩
  with_reducible refine law_5 X T hh hd hu Y5 rfl hm5 p5 hpl hp1 ((hk5 _ (by decide)).trans ((hk4 _ (by decide)).trans hm3)) v5 hmv4 ((hk5 _ (by decide)).trans hm4) fun s6 m6 tl c Y6 hm6 hk6 u6 q6 w6 => ?_
  have q6' : ToldsAt s6.heap tl (lawQs ns) := q6
  have w6' : MovesAt s6.heap c (lawMs ns) := w6
  have p6 : Strs a5 (lawPs ns) s6.heap := Y5.strs_up u6 p5
  with_reducible refine law_6 hh hu Y6 rfl hm6 q6' w6' (qs35 ns).2 (qs_ms ns) fun s7 Y7 kp7 => ?_
  have u7 : Up (Own3 s.heap.objs.size (s.heap.objs.size + 1)) s6.heap s7.heap := .of_kp kp7
  have q7 := Y6.tolds_up u7 q6'
  have w7 := Y6.moves_up u7 w6'
  have p7 := Y6.strs_up u7 p6
  have hml : (lawMs ns).length ≤ 5 := by rw [ms_len]; (first | lia | omega)
  with_reducible refine law_7 X T hh Y7 rfl (fun _ _ _ => rfl) w7 hml fun s8 m8 a8 Y8 hm8 hk8 u8 i8 => ?_
  have q8 := Y7.tolds_up u8 q7
  have w8 := Y7.moves_up u8 w7
  have p8 := Y7.strs_up u8 p7
  have qb : ∀ q ∈ lawQs ns, -1000 ≤ q.2.1 ∧ q.2.1 ≤ 0 ∧ -1000 ≤ q.2.2 ∧ q.2.2 ≤ 1000 := fun q hq => by
    have hm : q.2 ∈ lawMs ns := by rw [← qs_ms]; exact List.mem_map.mpr ⟨q, hq, rfl⟩
    exact ms_bd ns _ hm
  with_reducible refine law_8 X T hh hd hu Y8 ((hk8 _ (by decide)).trans hm6) q8 (qs35 ns).1 (qs35 ns).2 qb fun s9 m9 b9 tb Y9 hm9 hk9 u9 q9 => ?_
  have w9 := Y8.moves_up u9 w8
  have p9 := Y8.strs_up u9 p8
  have i9 := Y8.ints_up u9 i8
  have hperm := sorted_perm (qs35 ns).1 (qs35 ns).2
  have pc9 : m9 (Str.ofString "pieces") = some (.ref a5) := (hk9 _ (by decide)).trans ((hk8 _ (by decide)).trans ((hk6 _ (by decide)).trans hm5))
  refine law_9 hh Y9 pc9 p9 (fun p hp => (hp1 p hp).2) hpl hm9 q9 (fun q hq => by have := (qs_good ns q (hperm.mem_iff.mp hq)).len; (first | lia | omega)) (by rw [hperm.length_eq]; exact (qs35 ns).2) fun s10 m10 t10 t10' Y10 hx10 hy10 hk10 u10 => ?_
  have w10 := Y9.moves_up u10 w9
  have p10 := Y9.strs_up u10 p9
  have i10 := Y9.ints_up u10 i9
  refine law_10 X T hh hd hu Y10 ((hk10 _ (by decide) (by decide)).trans pc9) p10 (fun p hp => (hp1 p hp).2) hpl hx10 hy10 (by have := text_len ns; rw [lawText] at this; (first | lia | omega)) (by have := best_len ns; rw [lawBest] at this; (first | lia | omega)) (xs := lawAsked ns) rfl (asked_ok ns) fun s11 m11 b11 Y11 hm11 hk11 u11 c11 => ?_
  have w11 := Y10.moves_up u11 w10
  have i11 := Y10.ints_up u11 i10
  refine law_11 X T hh hd hu Y11 ((hk11 _ (by decide)).trans hx10) ((hk11 _ (by decide)).trans hy10) (by have := text_len ns; rw [lawText] at this; (first | lia | omega)) (by have := best_len ns; rw [lawBest] at this; (first | lia | omega)) (xs := lawMore ns) rfl (more_ok ns) fun s12 m12 b12 Y12 hm12 hk12 u12 c12 => ?_
  have w12 := Y11.moves_up u12 w11
  have i12 := Y11.ints_up u12 i11
  have d12 := Y11.bools_up u12 c11
  have hhl : (heightsOf (lawMs ns)).length = (lawMs ns).length := by rw [heightsOf, List.length_map, List.length_range]
  have hhl2 : (heightsOf (lawMs ns)).length = (lawXs ns).length + 1 := by rw [hhl, ms_len]
  have ht12 : m12 (Str.ofString "heights") = some (.ref a8) := (hk12 _ (by decide)).trans ((hk11 _ (by decide)).trans ((hk10 _ (by decide) (by decide)).trans ((hk9 _ (by decide)).trans hm8)))
  with_reducible refine law_12 X T hh hd hu Y12 rfl ht12 i12 (by (first | lia | omega)) w12 hml fun s13 m13 lo t13 Y13 ha13 hl13 hlo hle hk13 u13 => ?_
  have i13 := Y12.ints_up u13 i12
  have c13 := Y12.bools_up u13 c12
  have d13 := Y12.bools_up u13 d12
  have wh13 : m13 (Str.ofString "whole") = some (.int (lawW ns) t4) := (hk13 _ (by decide) (by decide)).trans ((hk12 _ (by decide)).trans ((hk11 _ (by decide)).trans ((hk10 _ (by decide) (by decide)).trans ((hk9 _ (by decide)).trans ((hk8 _ (by decide)).trans ((hk6 _ (by decide)).trans ((hk5 _ (by decide)).trans hm4)))))))
  with_reducible refine law_13 X T hh hu Y13 ((hk13 _ (by decide) (by decide)).trans ((hk12 _ (by decide)).trans hm11)) d13 ((hk13 _ (by decide) (by decide)).trans hm12) c13 ((hk13 _ (by decide) (by decide)).trans ht12) i13 (by (first | lia | omega)) (by (first | lia | omega)) hl13 ha13 wh13 (fun li h1 h2 => plain_asked ns hlo hle h1 h2) (plain_more ns hlo hle) fun s14 Y14 => ?_
  exact hret s14 Y14.keep ⟨_, Y14.tab⟩ Y14.gens Y14.os
end Mine

end
section
open PySem PySem.W PySem.Calls PyProof.Rows
set_option Elab.async false
set_option linter.unusedVariables false
namespace Mine
open PySem.W.X
theorem loose_eq : looseW Mine.myView LS = LS := by kernel_rfl
theorem h37_at : ∀ p : Params, (Mine.hd.heap_1 p).lookup 37 = some (tableObj #[]) := by k_fill; intro p; kernel_rfl
noncomputable def isTab (o : Option Obj) : Bool := match o with
  | some o => (o.cls == .type "code") && (match o.data with | .fields vs => vs[11]? == some (.ref 37) | _ => false)
  | none => false
theorem isTab_of {o : Option Obj} (h : isTab o = true) : ∃ o' vs, o = some o' ∧ o'.cls = .type "code" ∧ o'.data = .fields vs ∧ vs[11]? = some (.ref 37) := by
  unfold isTab at h
  split at h
  · rename_i o'
    rw [Bool.and_eq_true] at h
    obtain ⟨h1, h2⟩ := h
    split at h2
    · rename_i vs e
      exact ⟨o', vs, rfl, eq_of_beq h1, e, eq_of_beq h2⟩
    · cases h2
  · cases h
theorem tab41 : ∀ p : Params, isTab ((Mine.hd.heap_1 p).lookup 41) = true := by k_fill; intro p; kernel_rfl
theorem h41_at (p : Params) : ∃ o vs, (Mine.hd.heap_1 p).lookup 41 = some o ∧ o.cls = .type "code" ∧ o.data = .fields vs ∧ vs[11]? = some (.ref 37) := isTab_of (tab41 p)
theorem oldK_of {h h' : Heap} (hc : isCodeTable h 37) (h37 : h.get? 37 = some (tableObj #[])) (u : Up (fun b => b = 37) h h') (ht : ∃ ps, h'.get? 37 = some (tableObj ps)) : OldK h h' := by
  obtain ⟨ps, ht⟩ := ht
  refine ⟨fun b o e => ?_, fun b o e => ?_⟩
  · by_cases hb : b = 37
    · subst hb
      rw [h37] at e; cases e
      exact .inr (.inl ⟨hc, rfl, #[], ps, rfl, by rw [ht]; simp [tableObj]⟩)
    · exact .inl (u b o hb e)
  · by_cases hb : b = 37
    · subst hb; exact ⟨_, ht⟩
    · exact ⟨o, u b o hb e⟩
end Mine

end
open PySem PySem.W PySem.Calls PyProof.Rows
set_option Elab.async false
set_option linter.unusedVariables false
open PySem.W.X in
set_option maxRecDepth 100000 in
set_option maxHeartbeats 8000000 in
theorem PySem.Challenge.cw_om0053_01_holds : PySem.Challenge.rw_om0053_01.Holds := by
  refine Mine.hd ?_
  k_fill
  intro w s₀ s₁ mg mb G Y fa o pm cd doc dV kV ho hd hcd hD hmg hg args vals as hpre hlay hrd hwl hlo
  have KX := kIn_of Y
  have X := (Ground.X G).1
  have V := (Ground.X G).2
  refine Ground.open G ?_
  intro T B D TE TW
  wrow_args hpre hlay hrd hwl hlo
  all_goals (x_fa T KX hmg)
  rename IntsAre _ _ => hI
  rename Heap.IsList _ _ _ => hL
  rename ¬ (_ : Int) < _ => hlen
  have T' := topRead_of T
  rw [Mine.loose_eq] at T'
  have h37 := KX _ _ (Mine.h37_at _)
  have hct : isCodeTable s₁.heap 37 := let ⟨o, vs, e, a, b, c⟩ := Mine.h41_at w.params; ⟨41, o, vs, KX _ _ e, a, b, c⟩
  refine Mine.AA_mono 8 (Mine.law_spec w mg mb s₁ _ _ _ _ (Mine.K2_in KX) T' h37 ⟨_, hL, hI⟩ (by (first | lia | omega)) fun s' u ht go hos => ?_) rfl (Nat.le_of_ble_eq_true rfl) (Nat.le_of_ble_eq_true rfl)
  refine ⟨.inl ⟨.bool true, .bool true, [], rfl, raisesW_false ?_, .bool true, ?_, unshared_nil⟩, Mine.oldK_of hct h37 u ht, hos, go (.of_eq hg)⟩
  · wrow_none_raised
  · wrow_post
