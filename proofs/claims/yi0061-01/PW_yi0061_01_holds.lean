import PyProof.Rows.All
import Wide.All
import OpenK.AllK
import Wide.FinOn
import Lean
import PySem.Challenge.RW_yi0061_01
set_option Elab.async false
set_option maxRecDepth 100000
set_option maxHeartbeats 8000000
section
open PySem PySem.W PyProof.Rows PySem.Calls
namespace Mine
def runG (thr : Thread → Bool) (ok : Thread → Bool) (st : SharedT → Thread → Option (SharedT × Thread)) : Nat → SharedT → Thread → Option SharedT
  | 0, _, _ => none
  | n + 1, s, t => match thr t with
    | true => some s
    | false => match ok t with
      | false => none
      | true => match st s t with
        | some (s', t') => runG thr ok st n s' t'
        | none => none
theorem run_of {tb : String → Option Builtin} {p : Program} {w : World} {m : Nat} {ann : Option Value} : ∀ {n : Nat} {s s' : SharedT} {t : Thread}, runG through (stepOk m ann) (stepT (denote tb) p w) n s t = some s' → topRun tb p w m ann n s.abs t = some s'.abs
  | 0, _, _, _, h => by cases h
  | n + 1, s, s', t, h => by
    unfold runG at h
    unfold topRun
    cases he : through t with
    | true => rw [he] at h; cases h; rfl
    | false =>
      rw [he] at h
      cases hk : stepOk m ann t with
      | false => rw [hk] at h; cases h
      | true =>
        rw [hk] at h
        cases hs : stepT (denote tb) p w s t with
        | none => rw [hs] at h; cases h
        | some r => obtain ⟨s₂, t₂⟩ := r; rw [hs] at h; rw [stepT_spec hs]; exact run_of h
def treeOf : List Obj → Nat → BT → BT
  | [], _, t => t
  | o :: r, n, t => treeOf r (n + 1) (t.ins n o)
noncomputable def bootTree (P : Params) : BT := treeOf (boot_heap P).objs.toList 0 .nil
theorem boot_tree (P : Params) : absHeap (bootTree P) 11 {} = boot_heap P := by kernel_rfl
theorem boot_size (P : Params) : ((boot_heap P).isNs mainGlobals && (Array.mk ([] : List GenState)).size == 0, (boot_heap P).objs.size, (boot_heap P).nsMap mainGlobals "__annotations__") = (true, 11, some (.ref 6)) := by kernel_rfl
noncomputable def s0T (w : World) (os : OsState) : SharedT := ⟨bootTree w.params, 11, {}, Array.mk [], boot_drawn, boot_toks, os⟩
noncomputable abbrev runT (p : Program) (N : Nat) (w : World) (os : OsState) : Option SharedT := runG through (stepOk 11 (some (.ref 6))) (stepT (denote treeTable) p w) N (s0T w os) (topStub p)
noncomputable abbrev statics (p : Program) (w : World) (s : Shared) : Bool := staticsOk (importedModules p.main.body) (boot_heap w.params) s.heap && namesBound p s.heap && gensDone s && laidKept (boot_heap w.params) s.heap
theorem left_of {p q : Program} {loose : List Str} {Xt : Shared → Bool} {α : Type} {Yf : Shared → α} {Ya : World → α} {N : Nat} {g0 : Bool} (e : opening p = plainProg p.main.scope.names) (hN : Nat.ble 600 N = true) (f : ∀ s, fenceModules? p s = some s)
    (h1 : ∀ w, (fun os => (runT p N w os).map (fun s => statics p w s.abs)) = fun _ => some true)
    (h2 : ∀ w, (fun os => (runT p N w os).map (fun s => openSeen q loose (importedModules p.main.body) Xt g0 s.abs)) = fun _ => some (openGood q loose))
    (h3 : ∀ w, (fun os => (runT p N w os).map (fun s => Yf s.abs)) = fun _ => some (Ya w)) : LeftO p q loose Xt Yf Ya N g0 := fun w => by
  obtain ⟨⟨h, gs, d, k, os⟩, e', e''⟩ := Option.map_eq_some_iff.mp (boot_open e hN f w)
  obtain ⟨rfl, rfl, rfl, rfl⟩ : h = boot_heap w.params ∧ gs = Array.mk [] ∧ d = boot_drawn ∧ k = boot_toks := by simpa using e''
  obtain ⟨z1, z2, z3⟩ : _ ∧ _ ∧ _ := by simpa only [Prod.mk.injEq] using boot_size w.params
  obtain ⟨s, r, l1⟩ := Option.map_eq_some_iff.mp (congrFun (h1 w) os)
  have l2 := congrFun (h2 w) os
  have l3 := congrFun (h3 w) os
  replace l2 : (runT p N w os).map (fun s => openSeen q loose (importedModules p.main.body) Xt g0 s.abs) = _ := l2
  replace l3 : (runT p N w os).map (fun s => Yf s.abs) = _ := l3
  replace r : runT p N w os = some s := r
  rw [r] at l2 l3
  have l2' : openSeen q loose (importedModules p.main.body) Xt g0 s.abs = openGood q loose := Option.some.inj l2
  have l3' : Yf s.abs = Ya w := Option.some.inj l3
  have r' := run_of (show runG _ _ _ _ _ _ = _ from r)
  have ea : (s0T w os).abs = ⟨boot_heap w.params, Array.mk [], boot_drawn, boot_toks, os⟩ := congrArg (fun h => (⟨h, Array.mk [], boot_drawn, boot_toks, os⟩ : Shared)) (boot_tree w.params)
  rw [ea] at r'
  have t : topFrom treeTable p w N ⟨boot_heap w.params, Array.mk [], boot_drawn, boot_toks, os⟩ = some s.abs := by
    unfold topFrom
    dsimp only
    rw [z1, z2, z3, r']
    show (match staticsOk (importedModules p.main.body) (boot_heap w.params) s.abs.heap && namesBound p s.abs.heap && gensDone s.abs && laidKept (boot_heap w.params) s.abs.heap with | true => _ | false => _) = _
    rw [show (staticsOk (importedModules p.main.body) (boot_heap w.params) s.abs.heap && namesBound p s.abs.heap && gensDone s.abs && laidKept (boot_heap w.params) s.abs.heap) = true from l1]
  unfold openEnds
  rw [e']
  show (topFrom treeTable p w N _).map _ = _
  rw [t]
  exact congrArg some (Prod.ext l2' l3')
abbrev PR : Program := RowW.prog (OpenRow.toRowW (OpenLaw.row PySem.Challenge.rw_yi0061_01))
abbrev RowX : RowW := OpenRow.toRowW (OpenLaw.row PySem.Challenge.rw_yi0061_01)
def keepOf : List Stmt → List Stmt
  | a :: _ :: b :: c :: _ :: d :: e :: f :: _ :: r => a :: b :: c :: d :: e :: f :: r
  | l => l
def view : Program := { PR with main := { PR.main with body := keepOf PR.main.body } }
abbrev lo : List Str := [Str.ofString "PolynomialRing", Str.ofString "PolynomialNTT"]
abbrev XtX : Shared → Bool := fun s => xlAt view [] s && recOk (RowW.records RowX) s
theorem pr_open : opening PR = plainProg PR.main.scope.names := by kernel_rfl
theorem pr_fence (s : Shared) : fenceModules? PR s = some s := by kernel_rfl
theorem shot1 (w : World) : (fun os => (runT PR 6214 w os).map (fun s => statics PR w s.abs)) = fun _ => some true := by
  unfold runT statics
  rewrite [PySem.W.Fast.te5923862056798008813, PySem.W.Fast.te6613529449190102663, PySem.W.Fast.te10156331382660048174, PySem.W.Fast.te11892475500146522536, PySem.W.Fast.te14364793385576792824]
  kernel_rfl
theorem shot2 (w : World) : (fun os => (runT PR 6214 w os).map (fun s => openSeen view lo (importedModules PR.main.body) XtX true s.abs)) = fun _ => some (openGood view lo) := by
  unfold runT
  rewrite [PySem.W.Fast.te5923862056798008813, PySem.W.Fast.te4187177175401517315, PySem.W.Fast.te6613529449190102663, PySem.W.Fast.te10156331382660048174, PySem.W.Fast.te11892475500146522536, PySem.W.Fast.te14364793385576792824]
  kernel_rfl
local macro_rules | `(tactic| o_law) => `(tactic| (refine holds_law (by kernel_rfl) fun said => ?_))
local macro_rules | `(tactic| o_head $H) => `(tactic| (refine holds_open (q := view) (loose := lo) (Xt := XtX) (XP := XL view []) (Yf := Hook.obs $H) (Ya := Hook.val $H) (YP := Hook.says $H) (N := 6214) (left_of pr_open (by decide) pr_fence shot1 shot2 ?hl) (Hook.of $H) (Hook.keeps $H) (fun s e => xl_of s (Bool.and_eq_true_iff.mp e).1) XL.keeps (by rfl) (by rfl) (by rfl) (fun s e => recFacts_of (Bool.and_eq_true_iff.mp e).2) (by rfl) (by assumption) (by decide +kernel) ⟨rfl, rfl, rfl, rfl, rfl, by decide +kernel⟩ ?hw ?hc; (case hl => intro w; unfold runT; rewrite [PySem.W.Fast.te6613529449190102663, PySem.W.Fast.te10156331382660048174, PySem.W.Fast.te11892475500146522536, PySem.W.Fast.te14364793385576792824]; kernel_rfl)))
open_top hd for PySem.Challenge.rw_yi0061_01
theorem top_off : True := by
  w_top off
  exact True.intro
end Mine
end
section
open PySem PySem.W PyProof.Rows PySem.Calls
namespace Mine
theorem gives_pow3 (a : Int) (t : Tok) (b : Int) (u : Tok) (c : Int) (v : Tok) (hb : ¬ b < 0) (h0 : ¬(c == 0) = true) (hn : ¬ (c < 0)) (hc1 : ¬(c.natAbs == 1) = true) :
    Gives (Builtin.«int.__pow__» ⟨[.int a t, .int b u, .int c v], []⟩) (.int (Builtin.powMod (a % ((c.natAbs : Nat) : Int)).toNat b.natAbs c.natAbs : Nat)) :=
  .of_wp fun M A E s Q h => by
    obtain ⟨hp, g, d, tk, os⟩ := s
    wp_walk
    rw [decide_eq_false hn]
    exact ⟨_, rfl, h⟩
theorem gives_pow_inv (t : Tok) (u : Tok) (v : Tok) :
    Gives (Builtin.«int.__pow__» ⟨[.int 128 t, .int (-1) u, .int 3329 v], []⟩) (.int 3303) :=
  .of_wp fun M A E s Q h => by
    obtain ⟨hp, g, d, tk, os⟩ := s
    wp_walk
    rw [show (if (decide ((3329:Int) < 0) && ((Builtin.powMod ((0 - ((Int.natAbs 3329 : Nat) : Int) / (((128 % ((Int.natAbs 3329 : Nat) : Int)).toNat : Nat) : Int) * 1) % ((Int.natAbs 3329 : Nat) : Int)).toNat (-1 : Int).natAbs (Int.natAbs 3329) : Nat) : Int) != 0) = true then ((Builtin.powMod ((0 - ((Int.natAbs 3329 : Nat) : Int) / (((128 % ((Int.natAbs 3329 : Nat) : Int)).toNat : Nat) : Int) * 1) % ((Int.natAbs 3329 : Nat) : Int)).toNat (-1 : Int).natAbs (Int.natAbs 3329) : Nat) : Int) - ((Int.natAbs 3329 : Nat) : Int) else ((Builtin.powMod ((0 - ((Int.natAbs 3329 : Nat) : Int) / (((128 % ((Int.natAbs 3329 : Nat) : Int)).toNat : Nat) : Int) * 1) % ((Int.natAbs 3329 : Nat) : Int)).toNat (-1 : Int).natAbs (Int.natAbs 3329) : Nat) : Int)) = 3303 from by decide +kernel]
    exact ⟨_, rfl, h⟩
end Mine
end
section
open PySem PySem.W PyProof.Rows PySem.Calls
namespace Mine
theorem entry_pow : entryFor table "pow" = some Builtin.«pow» := entryFor_of_tree (by kernel_rfl)
theorem kind_pow : builtinKind "pow" = none := by decide +kernel
theorem plain_pow : plainId "pow" = true := by decide +kernel
theorem args_pow3 (a b c : Value) : argsOk "pow" ⟨[a, b, c], []⟩ := by unfold argsOk; kernel_rfl
theorem entry_ipow : entryFor table "int.__pow__" = some Builtin.«int.__pow__» := entryFor_of_tree (by kernel_rfl)
theorem args_ipow3 (a b c : Value) : argsOk "int.__pow__" ⟨[a, b, c], []⟩ := by unfold argsOk; kernel_rfl
theorem lk_int_pow : typeLookup (.type "int") "__pow__" = pure (some (.builtin "int.__pow__")) := by rw [typeLookup_type, builtinLookup_eq_fast]; kernel_rfl
section
variable {prog : Program} {w : World} {A : Around} {E : Value → Shared → Prop} {s : Shared}
theorem pow3 {a : Int} {t : Tok} {b : Int} {u : Tok} {c : Int} {v : Tok} {r : Int} {Q : Value → Shared → Prop}
    (g : Gives (Builtin.«int.__pow__» ⟨[.int a t, .int b u, .int c v], []⟩) (.int r))
    (h : ∀ t' tk, Q (.int r t') { s with toks := tk }) : wpAny (model prog w) A (call (.builtin "pow") [.int a t, .int b u, .int c v]) Q E s := by
  refine call_function_meets (S := fun A R s' => s' = s ∧ ∀ t' tk, R (.ok (.ret (.int r t'))) { s with toks := tk }) kind_pow plain_pow entry_pow (args_pow3 _ _ _) (.of_wp fun prog' w' A' R s' hs => ?_) ⟨rfl, h⟩
  obtain ⟨rfl, hs⟩ := hs
  have f1 : typeOf (.int a t) = pure (.type "int") := rfl
  have f2 := lk_int_pow
  have f3 := F.slot_int_pow.bind (.int a t)
  obtain ⟨hp, gg, d, tk, os⟩ := s'
  repeat (first
    | (with_reducible refine wpAny_callSpecial?_slot (typeIs_int _ a t) F.slot_int_pow ?_)
    | (refine call_meets F.slot_int_pow (typeIs_int _ a t) entry_ipow (args_ipow3 (.int a t) (.int b u) (.int c v)) g.meets ?_; dsimp only [Made.spec, Made.post, wants])
    | wp_step)
  exact ⟨_, rfl, hs _ _⟩
end
end Mine
end
section
open PySem PySem.W PyProof.Rows PySem.Calls PySem.NumText
namespace Mine
theorem typeCall_int_2 (a b : Value) : checkTypeCall "int" ⟨[a, b], []⟩ = pure () := by kernel_rfl
theorem newCall_int_2 (a b : Value) : checkBuiltinCall "int.__new__" ⟨[.type "int", a, b], []⟩ = pure () := by kernel_rfl
theorem args_object_init_3 (a b c : Value) : argsOk "object.__init__" ⟨[a, b, c], []⟩ := by unfold argsOk; kernel_rfl
def readsBin (x : PySem.Str) (n : Int) : Prop := (x.cps.all (· < 128)) = true ∧ x.cps.toList.length ≤ 640 ∧ (int_private% "readNumeral") 0 2 (x.cps.toList.takeWhile (· != 0)) = (int_private% "Numeral.value") n ∧ ((x.cps.toList.takeWhile (· != 0)).length == x.cps.toList.length) = true
theorem gives_int2 {x : PySem.Str} {u v : Tok} {n : Int} (hx : readsBin x n) : Gives (Builtin.«int.__new__» ⟨[.type "int", .str x u, .int 2 v], []⟩) (.int n) :=
  .of_wp fun M A E s Q h => by
    obtain ⟨hp, g, d, tk, os⟩ := s
    have f1 := F.conv_sub_int
    have f2 := F.madeHere_int
    obtain ⟨h1, h2, h3, h4⟩ := hx
    have h5 : (x.cps.toList.takeWhile (· != 0)).length ≤ 640 := by
      rw [beq_iff_eq.mp h4]; exact h2
    repeat (any_goals (first
    | assumption
    | (with_reducible refine wpAny_ite_true (decide_eq_true h5) ?_)
    | (with_reducible refine wpAny_ite_true h1 ?_)
    | (with_reducible refine wpAny_ite_true h4 ?_)
    | (rw [if_pos h1, show Int.toNat 2 = 2 from rfl, h3]; dsimp only)
    | (rw [if_pos h4])
    | wp_step))
    all_goals first | exact ⟨_, rfl, h⟩ | skip
section
variable {prog : Program} {w : World} {A : Around} {E : Value → Shared → Prop} {s : Shared}
theorem call_int2 {x : PySem.Str} {u v : Tok} {n : Int} {Q : Value → Shared → Prop} (hx : readsBin x n) (h : ∀ t, Q (.int n t) { s with toks := s.toks + 1 }) : wpAny (model prog w) A (call (.type "int") [.str x u, .int 2 v]) Q E s :=
  callType_new F.called_int F.newNe_int (typeCall_int_2 _ _) (newCall_int_2 _ _) (fun obj => args_object_init_3 obj _ _) F.entry_int_new (gives_int2 hx).meets (show (Made.int n).post _ s from ⟨rfl, h _⟩)
end
end Mine
end
section
open PySem PySem.W PyProof.Rows PySem.Calls
namespace Mine
theorem fills_list_iadd : fillsInplaceSlot (.type "list") "add" (Operator.Add == .Add) = pure false := by
  unfold fillsInplaceSlot
  show (typeLookup (.type "list") (dunderI "add") >>= fun fi => pure (fi.isSome && !isSeqSlot fi)) = pure false
  rw [PySem.F.slot_list_iadd.lookup]
  exact congrArg (fun b => (pure b : Sem Bool)) (by decide +kernel)
theorem fills_list_add : fillsNumberSlot (.type "list") "add" = pure false :=
  PyProof.Rows.fillsNumberSlot_seq (id := "list.__add__") (r := none) (by rw [typeLookup_type, builtinLookup_eq_fast]; kernel_rfl) (by decide +kernel) (by rw [typeLookup_type, builtinLookup_eq_fast]; kernel_rfl) rfl
theorem seq_list_iadd : seqSlot? (.type "list") (dunderI "add") = pure (some (.builtin "list.__iadd__")) :=
  PyProof.Rows.seqSlot_of PySem.F.slot_list_iadd.lookup (by decide +kernel)
section
variable {prog : Program} {w : World} {A : Around} {E : Value → Shared → Prop} {s : Shared} {h₀ : Heap} {L l b : Addr} {m : Str → Option Value} {news news' : List (Addr × Obj)}
theorem iadd_list {xs ys : List Value} {n n2 : Nat} {Q : Value → Shared → Prop} (F : Fr h₀ L s.heap m) (N : News h₀ L s.heap news) (hb : (b, listOf ys.toArray n2) ∈ news) (hne : ys.length ≠ 0)
    (U : Upd l (listOf xs.toArray n) (listOf (xs ++ ys).toArray (n + 1)) news news') (hz : xs.length + ys.length ≤ 1000000)
    (h : ∀ h', Fr h₀ L h' m → News h₀ L h' news' → Q (.ref l) { s with heap := h' }) : wpAny (model prog w) A (inplaceOp .Add (.ref l) (.ref b)) Q E s := by
  obtain ⟨pre, post, rfl, rfl, a, c⟩ := U.split
  have z := N (l, listOf xs.toArray n) (List.mem_append.mpr (.inr (.head _)))
  have hl : s.TypeIs (.ref l) "list" := ⟨_, z.1, rfl⟩
  have hbt : s.TypeIs (.ref b) "list" := ⟨_, (N _ hb).1, rfl⟩
  have hs : xs.toArray.size + ys.toArray.size ≤ 1000000 := by rw [List.size_toArray, List.size_toArray]; exact hz
  unfold inplaceOp
  refine wpAny_holding ?_
  refine wpAny_bind (wpAny_typeOf hl (wpAny_bind (wpAny_of_eq fills_list_iadd ?_)))
  show wpAny _ A (if false = true then _ else _) Q E s
  rw [if_neg Bool.false_ne_true]
  refine wpAny_bind (PyProof.Rows.binaryOp1_none (nm := "add") hl hbt fills_list_add ?_)
  refine wpAny_bind (wpAny_of_eq seq_list_iadd ?_)
  refine wpAny_bind (wpAny_rule ?_)
  refine call_meets PySem.F.slot_list_iadd hl PySem.F.entry_list_iadd (by unfold argsOk; kernel_rfl) (AutoSeq1.list___iadd___list_list_0 l xs.toArray n b ys.toArray n2 ?_ ?_ ?_) ⟨z.1, (N _ hb).1, h _ (F.change (Heap.SameBut.update ..) z.2.1 z.2.2) (kl_turn _ N a c ?_ ?_)⟩
  · intro q
    have q2 := (Bool.and_eq_true_iff.mp q).2
    revert q2
    generalize xs.toArray.size + ys.toArray.size = k at hs
    simp only [Builtin.List.listTooLong]
    intro q2
    have := of_decide_eq_true q2
    rw [sizeLine_eq] at this
    omega
  · rw [sizeLine_eq]; omega
  · rw [sizeLine_eq]; omega
  · apply Array.toList_inj.mp
    simp
  · simp only [List.size_toArray, List.length_append]
    omega
end
end Mine
end
section
open PySem PySem.W PyProof.Rows PySem.Calls
namespace Mine
structure Sz (n : Nat) (x : Int) : Prop where
  out : Builtin.Int.intBits x ≤ n
theorem Sz.mul {n k : Nat} {x y : Int} (hx : Sz n x) (hy : Sz k y) : Sz (n + k) (x * y) := ⟨intBits_mul_le hx.out hy.out⟩
theorem Sz.neg {n : Nat} {x : Int} (hx : Sz n x) : Sz n (-x) := ⟨intBits_neg_le hx.out⟩
def AllSz (n : Nat) (l : List Int) : Prop := ∀ j, Sz n (l.getD j 0)
theorem AllSz.at {n : Nat} {l : List Int} (h : AllSz n l) (j : Nat) : Sz n (l.getD j 0) := h j
section
variable {prog : Program} {w : World} {A : Around} {E : Value → Shared → Prop} {s : Shared} {h₀ : Heap} {L l b : Addr} {m : Str → Option Value} {news news' : List (Addr × Obj)}
theorem mul_ok {n k : Nat} {x y : Int} (hx : Sz n x) (hy : Sz k y) (hn : n + k ≤ 100000000) : IntMulOk x y := by
  unfold IntMulOk
  intro q
  have q2 := (Bool.and_eq_true_iff.mp q).2
  have h1 := hx.out
  have h2 := hy.out
  have hb : bitsLine = 134217728 := by decide
  simp only [Builtin.Int.intTooBig] at q2
  have q3 := of_decide_eq_true q2
  rw [hb] at q3
  omega
theorem mul_sz {n k : Nat} {x y : Int} {t u : Tok} {Q : Value → Shared → Prop} (hx : Sz n x) (hy : Sz k y) (hn : n + k ≤ 100000000) (h : Q (.int (x * y) s.toks) { s with toks := s.toks + 1 }) :
    wpAny (model prog w) A (binaryOp .Mult (.int x t) (.int y u)) Q E s := mul_int h (mul_ok hx hy hn)
theorem item_int {value slice : Expr} {a : Addr} {lo : Obj} {vs : List Value} {ns : List Int} {n : Nat} {k : Int} {u : Tok} {Q : Value → Shared → Prop} (N : News h₀ L s.heap news) (hm : (a, lo) ∈ news) (hI : IntsAre vs ns) (hc : lo.cls = .type "list") (hd : lo.data = .seq vs.toArray n)
    (h0 : 0 ≤ k) (h1 : k < (ns.length : Int)) (h2 : ns.length ≤ 1000) (h : ∀ t, Q (.int (ns.getD k.toNat 0) t) s)
    (hs : subscripted slice false (.ref a) (.int k u) = operate [.ref a, .int k u] (getItem (.ref a) (.int k u)) := by with_unfolding_all rfl) (hg : ∀ r, letTemporaryGo value (.ref a) r = pure () := by intro _; with_unfolding_all rfl) :
    wpAny (model prog w) A (subscriptTail value slice (.ref a) (.int k u)) Q E s := by
  have hk : k.toNat < ns.length := by omega
  obtain ⟨t, hx⟩ := hI.get k.toNat ns[k.toNat] (by simp [hk])
  refine kim_list N hm hc hd h0 (by omega) hx ?_ hs hg
  have e : ns.getD k.toNat 0 = ns[k.toNat] := by simp [List.getD, hk]
  rw [← e]
  exact h t
end
end Mine
end
section
open PySem PySem.W PyProof.Rows PySem.Calls
namespace Mine
@[irreducible] def bt0 (k : Int) : PySem.Str := baseText "0b" 2 (Builtin.bitAnd k (2 ^ Int.toNat 7 - 1))
@[irreducible] def bt1 (k : Int) : PySem.Str := Txt.slice (bt0 k) (some 2) none
@[irreducible] def bt2 (k : Int) : PySem.Str := Txt.zfill (bt1 k) 7
@[irreducible] def bt3 (k : Int) : PySem.Str := ⟨((slicePicked (bt2 k) none none (some (-1, 0))).filterMap ((bt2 k).cps[·]?)).toArray⟩
def brF (k : Int) : Int := (((List.range 7).foldl (fun a j => 2 * a + (k.toNat >>> j) % 2) 0 : Nat) : Int)
theorem bt_small : ∀ n : Nat, n < 128 → (bt0 (n : Int)).length ≤ 16 ∧ (bt2 (n : Int)).length ≤ 16 ∧ (bt3 (n : Int)).length ≤ 16 ∧ ((bt3 (n : Int)).cps.all (· < 128)) = true ∧ (bt3 (n : Int)).cps.toList.length ≤ 640 ∧ (((bt3 (n : Int)).cps.toList.takeWhile (· != 0)).length == (bt3 (n : Int)).cps.toList.length) = true := by
  unfold bt3 bt2 bt1 bt0; decide +kernel
theorem bt_read0 : (List.range 128).map (fun n => (int_private% "readNumeral") 0 2 ((bt3 ((n : Nat) : Int)).cps.toList.takeWhile (· != 0))) = (List.range 128).map (fun n => (int_private% "Numeral.value") (brF ((n : Nat) : Int))) := by
  unfold bt3 bt2 bt1 bt0; kernel_rfl
theorem bt_read {n : Nat} (h : n < 128) : (int_private% "readNumeral") 0 2 ((bt3 (n : Int)).cps.toList.takeWhile (· != 0)) = (int_private% "Numeral.value") (brF (n : Int)) :=
  List.map_inj_left.mp bt_read0 n (List.mem_range.mpr h)
theorem bt_bin {k : Int} (h0 : 0 ≤ k) (h1 : k < 128) : readsBin (bt3 k) (brF k) := by
  obtain ⟨n, rfl⟩ := Int.eq_ofNat_of_zero_le h0
  have h := bt_small n (by omega)
  exact ⟨h.2.2.2.1, h.2.2.2.2.1, bt_read (by omega), h.2.2.2.2.2⟩
theorem bt_len {k : Int} (h0 : 0 ≤ k) (h1 : k < 128) : (bt0 k).length ≤ sizeLine ∧ (bt2 k).length ≤ sizeLine ∧ (bt3 k).length ≤ sizeLine := by
  obtain ⟨n, rfl⟩ := Int.eq_ofNat_of_zero_le h0
  have h := bt_small n (by omega)
  have hs : 16 ≤ sizeLine := by decide
  exact ⟨Nat.le_trans h.1 hs, Nat.le_trans h.2.1 hs, Nat.le_trans h.2.2.1 hs⟩
@[irreducible] def pw17 (e : Int) : Int := ((Builtin.powMod 17 e.natAbs 3329 : Nat) : Int)
theorem brF_small : ∀ n : Nat, n < 128 → 0 ≤ brF (n : Int) ∧ brF (n : Int) < 128 := by decide +kernel
theorem brF_nonneg (k : Int) : ¬ brF k < 0 := by unfold brF; omega
section
variable {prog : Program} {w : World} {A : Around} {E : Value → Shared → Prop} {s : Shared} {h₀ : Heap} {L : Addr} {m : Str → Option Value} {news : List (Addr × Obj)} {k : Int} {t u : Tok} {value slice : Expr}
theorem bin_br {Q : Value → Shared → Prop} (h0 : 0 ≤ k) (h1 : k < 128) (h : ∀ t', Q (.str (bt0 k) t') { s with toks := s.toks + 1 }) :
    wpAny (model prog w) A (call (.builtin "bin") [.int (Builtin.bitAnd k (2 ^ Int.toNat 7 - 1)) t]) Q E s :=
  P.bin_of_int (by have := h s.toks; unfold bt0 at this; exact this) (by have := (bt_len h0 h1).1; unfold bt0 at this; exact this)
theorem slice_br {ui : Tok} {Q : Value → Shared → Prop} (h0 : 0 ≤ k) (h1 : k < 128) (hF : Fr h₀ L s.heap m) (hN : News h₀ L s.heap news) (h : ∀ h' t' tk, Fr h₀ L h' m → News h₀ L h' news → Q (.str (bt1 k) t') { s with heap := h', toks := tk })
    (hs : subscripted slice false (.str (bt0 k) t) (.ref s.heap.objs.size) = operate [.ref s.heap.objs.size, .str (bt0 k) t] (getItem (.str (bt0 k) t) (.ref s.heap.objs.size)) := by with_unfolding_all rfl)
    (ht : ∀ r, letTemporaryGo value (.str (bt0 k) t) r = pure () := by intro _; with_unfolding_all rfl) :
    wpAny (model prog w) A (subscriptTail value slice (.str (bt0 k) t) (.ref s.heap.objs.size)) Q E { s with heap := s.heap.push { cls := .type "slice", data := .fields #[.int 2 ui, .none, .none] } } :=
  slice_strN_sn hF hN (fun h' t' tk f n => by have := h h' t' tk f n; unfold bt1 at this; exact this) hs ht (bt_len h0 h1).1
theorem zfill_br {Q : Value → Shared → Prop} (h : ∀ t' tk, Q (.str (bt2 k) t') { s with toks := tk }) : wpAny (model prog w) A (call (.builtin "str.zfill") [.str (bt1 k) t, .int 7 u]) Q E s :=
  SC.zfill (by decide +kernel) fun t' tk => by have := h t' tk; unfold bt2 at this; exact this
theorem rev_br {ui : Tok} {Q : Value → Shared → Prop} (h0 : 0 ≤ k) (h1 : k < 128) (hF : Fr h₀ L s.heap m) (hN : News h₀ L s.heap news) (h : ∀ h' t' tk, Fr h₀ L h' m → News h₀ L h' news → Q (.str (bt3 k) t') { s with heap := h', toks := tk })
    (hs : subscripted slice false (.str (bt2 k) t) (.ref s.heap.objs.size) = operate [.ref s.heap.objs.size, .str (bt2 k) t] (getItem (.str (bt2 k) t) (.ref s.heap.objs.size)) := by with_unfolding_all rfl)
    (ht : ∀ r, letTemporaryGo value (.str (bt2 k) t) r = pure () := by intro _; with_unfolding_all rfl) :
    wpAny (model prog w) A (subscriptTail value slice (.str (bt2 k) t) (.ref s.heap.objs.size)) Q E { s with heap := s.heap.push { cls := .type "slice", data := .fields #[.none, .none, .int (-1) ui] } } := by
  refine tail_of_ItemOn ⟨"str", _, F.slot_str_getitem.lookup, typeIs_str _ _ _, wpAny_getItem_str_slice (l := none) (u := none) (st := some (-1, ui)) ⟨_, Heap.get?_push_size _ rfl, rfl, rfl⟩ rfl ?_⟩ hs ht
  unfold sliceMade
  rw [if_neg (by simp)]
  have hl := (bt_len h0 h1).2.2
  have hq := h (s.heap.push { cls := .type "slice", data := .fields #[.none, .none, .int (-1) ui] }) s.toks (s.toks + 1) (hF.push _) (fun p hp => ⟨Heap.get?_push_of_some _ (hN p hp).1, (hN p hp).2⟩)
  unfold bt3 at hl hq
  exact ⟨hl, hq⟩
theorem pow17 {e : Int} {v : Tok} {Q : Value → Shared → Prop} (he : ¬ e < 0) (h : ∀ t' tk, Q (.int (pw17 e) t') { s with toks := tk }) : wpAny (model prog w) A (call (.builtin "pow") [.int 17 t, .int e u, .int 3329 v]) Q E s :=
  pow3 (gives_pow3 17 t e u 3329 v he (by decide) (by decide) (by decide)) fun t' tk => by have := h t' tk; unfold pw17 at this; exact this
end
end Mine
end
section
open PySem PySem.W PyProof.Rows PySem.Calls
namespace Mine
theorem call_keep {prog : Program} {w : World} {A A₀ : Around} {s : Shared} {K : Frag} {L : Addr} {h₀ base : Heap} {m mg mb : Str → Option Value} {ex : List (Addr × Obj)} {p : Program} {loose : List Str} {mean : ExcName → Option Value}
    {env : Env} {outer : List Env} {R : Result → Shared → Prop} {name qual : Str} {params : Arguments} {body : List Stmt} {scope : Scope} {dV kV doc pm cdv ct oc : Value} {an od : Option Addr} {osl : Array (Option Value)} {f : Addr} {args : Args} {binds : List (Str × Value)}
    (B : Below A₀ base outer h₀) (F : Fr h₀ L s.heap m) (X₀ : K.In h₀) (N : News h₀ L s.heap ex) (T : Top p loose mean mg mb h₀) (hA : A.frames = some (env :: outer)) (hf : env.frame = some L) (hke : env.scope.kind = .function)
    (ho : K.lookup f = some ⟨oc, od, .func (fnOf name qual params body scope dV kV doc pm an cdv ct), osl⟩) (hcd : codeIn K cdv qual = true) (hroom : A.depth < recursionLimit)
    (hbind : BindsTo s (fnOf name qual params body scope dV kV doc pm an cdv ct) args binds) (hloc : ∀ y ∈ binds, scope.names.lookup y.1 = some .local)
    (h : ∀ g L' h₁, (∀ b o, s.heap.get? b = some o → b ∉ ex.map (·.1) → g.get? b = some o) → s.heap.objs.size ≤ L' → Fr g L' h₁ (fun y => binds.reverse.lookup y) → News g L' h₁ ex → Below A base (env :: outer) g → K.In g → Top p loose mean mg mb g →
      wpAny (model prog w) (A.deeper (envOf qual scope L' f cdv)) (execs body (envOf qual scope L' f cdv))
        (fun fl s' => R (.ok (.ret (match fl with | .ret v => v | _ => .none))) s')
        (fun e s' => wpAny (model prog w) (A.deeper (envOf qual scope L' f cdv)) (leaving (envOf qual scope L' f cdv) e) (fun _ s'' => R (.error e) s'') (fun e' s'' => R (.error e') s'') s')
        { s with heap := h₁, toks := s.toks + binds.length })
    (hco : scope.isCoroutine = false) (hgen : scope.isGenerator = false) (hk : scope.kind = .function)
    (hcell : ∀ x ∈ scope.names, x.2 ≠ .cell) : codeAny (model prog w) A (.call (.ref f) args) R s := by
  obtain ⟨FG, BG, st, lv⟩ := groundX (R := R) B F N hA hf hke
  refine codeAny_call_def (fd := fnOf name qual params body scope dV kV doc pm an cdv ct) (body := body) (binds := binds) hroom ((X₀.keeps F.keep) _ _ ho) rfl (T.nolimit.keeps F.keep) (codeRec_of (X₀.keeps F.keep) hcd) rfl hbind hcell hloc (fun h₁ hns hk₁ => ?_) hco hgen hk
  exact h _ s.heap.objs.size h₁ (fun b o e n => hideAll_get _ e n) (Nat.le_refl _) ⟨hns, fun b o e => hk₁ b o (of_hideAll _ e), Nat.le_of_eq (hideAll_size _ _)⟩
    (fun p hp => ⟨hk₁ _ _ (N p hp).1, Nat.ne_of_lt (Heap.lt_size (N p hp).1), hideAll_none _ (List.mem_map_of_mem hp)⟩) BG (X₀.keeps st) (T.keeps st)
theorem call_keepC {prog : Program} {w : World} {A A₀ : Around} {s : Shared} {K : Frag} {L : Addr} {h₀ base : Heap} {m mg mb : Str → Option Value} {ex : List (Addr × Obj)} {p : Program} {loose : List Str} {mean : ExcName → Option Value}
    {env : Env} {outer : List Env} {R : Result → Shared → Prop} {name qual : Str} {params : Arguments} {body : List Stmt} {scope : Scope} {dV kV doc pm cdv ct oc : Value} {an od : Option Addr} {osl : Array (Option Value)} {f : Addr} {args : Args} {binds : List (Str × Value)}
    (B : Below A₀ base outer h₀) (F : Fr h₀ L s.heap m) (X₀ : K.In h₀) (N : News h₀ L s.heap ex) (T : Top p loose mean mg mb h₀) (hA : A.frames = some (env :: outer)) (hf : env.frame = some L) (hke : env.scope.kind = .function)
    (ho : K.lookup f = some ⟨oc, od, .func (fnOf name qual params body scope dV kV doc pm an cdv ct), osl⟩) (hcd : codeIn K cdv qual = true) (hroom : A.depth < recursionLimit)
    (hbind : BindsTo s (fnOf name qual params body scope dV kV doc pm an cdv ct) args binds) (hkind : (binds.all fun y => scope.names.lookup y.1 == some .local || scope.names.lookup y.1 == some .cell) = true)
    (hnd : ((cellsFrom 0 scope.names []).map (·.1)).Nodup)
    (h : ∀ g L' h₁ tk cells, (∀ b o, s.heap.get? b = some o → b ∉ ex.map (·.1) → g.get? b = some o) → Fr g L' h₁ (bindL (envOfC qual scope L' f cdv).kindOf binds fun _ => none) → News g L' h₁ (cells ++ ex) →
      CellsAre (bindC (envOfC qual scope L' f cdv).kindOf binds fun _ => none) (cellsFrom (L' + 1) scope.names []) cells → Below A base (env :: outer) g → K.In g → Top p loose mean mg mb g → (∀ p ∈ ex, p.1 < L') →
      wpAny (model prog w) (A.deeper (envOfC qual scope L' f cdv)) (execs body (envOfC qual scope L' f cdv))
        (fun fl s' => R (.ok (.ret (match fl with | .ret v => v | _ => .none))) s')
        (fun e s' => wpAny (model prog w) (A.deeper (envOfC qual scope L' f cdv)) (leaving (envOfC qual scope L' f cdv) e) (fun _ s'' => R (.error e) s'') (fun e' s'' => R (.error e') s'') s')
        { s with heap := h₁, toks := tk })
    (hco : scope.isCoroutine = false) (hgen : scope.isGenerator = false) (hk : scope.kind = .function) : codeAny (model prog w) A (.call (.ref f) args) R s := by
  obtain ⟨FG, BG, st, lv⟩ := groundX (R := R) B F N hA hf hke
  refine codeAny_call_function hroom ((X₀.keeps F.keep) _ _ ho) rfl hco hgen rfl (codeRec_of (X₀.keeps F.keep) hcd) (hbind _ _ _ _ ?_)
  refine wpAny_newFunctionEnv_cells hk (kindsX hkind _) fun env' he s' x => ?_
  subst he
  refine ⟨(T.nolimit.keeps F.keep).keeps x.toInCall.keep, codeAny_func ?_⟩
  obtain ⟨h₁, tk, rfl, _⟩ := x.done
  have hk₁ := x.toInCall.keep
  obtain ⟨cells, NC, Y⟩ := Cl.news (h₀ := s.heap) (Nat.le_refl _) fun n c hm => ⟨x.cell n c (lookup_of_mem_nodup (cellsFrom_names scope.names 0 (s.heap.objs.size + 1) [] [] rfl ▸ hnd) hm), x.above n c hm⟩
  refine h _ s.heap.objs.size h₁ tk cells (fun b o e n => hideAll_get _ e n) ⟨x.toInCall.ns, fun b o e => hk₁ b o (of_hideAll _ e), Nat.le_of_eq (hideAll_size _ _)⟩ (fun p hp => ?_) Y BG (X₀.keeps st) (T.keeps st) (fun p hp => Heap.lt_size (N p hp).1)
  rcases List.mem_append.mp hp with hp | hp
  · refine ⟨(NC p hp).1, (NC p hp).2.1, ?_⟩
    cases q : (hideAll s.heap (ex.map (·.1))).get? p.1 with
    | none => rfl
    | some o =>
      have e1 := of_hideAll _ q
      rw [(NC p hp).2.2] at e1
      cases e1
  · exact ⟨hk₁ _ _ (N p hp).1, Nat.ne_of_lt (Heap.lt_size (N p hp).1), hideAll_none _ (List.mem_map_of_mem hp)⟩
theorem stays_of {h₀ h h' g : Heap} {L L' : Addr} {m' : Str → Option Value} {ex : List (Addr × Obj)} (N : News h₀ L h ex) (hgk : ∀ b o, h.get? b = some o → b ∉ ex.map (·.1) → g.get? b = some o) (F : Fr g L' h' m') (Nk : ∀ p ∈ ex, h'.get? p.1 = some p.2) :
    ∀ b o, h.get? b = some o → h'.get? b = some o := by
  intro b o hb
  by_cases hm : b ∈ ex.map (·.1)
  · obtain ⟨p, hp, rfl⟩ := List.mem_map.mp hm
    rw [(N p hp).1] at hb
    cases hb
    exact Nk p hp
  · exact F.keep b o (hgk b o hb hm)
theorem fresh_of {h g : Heap} {l : Addr} {ex : List (Addr × Obj)} (hgk : ∀ b o, h.get? b = some o → b ∉ ex.map (·.1) → g.get? b = some o) (hn : g.get? l = none) (hne : l ∉ ex.map (·.1)) : h.get? l = none := by
  cases q : h.get? l with
  | none => rfl
  | some o => rw [hgk l o q hne] at hn; cases hn
theorem units_deeper (A : Around) (env : Env) : (A.deeper env).units = A.units + 3 := rfl
theorem nodeep (A : Around) (n : Nat) (env : Env) (h : A.depth + 1 + n < recursionLimit) : (A.deeper env).depth + n < recursionLimit := by rw [depth_deeper]; omega
end Mine
end
section
open PySem PySem.W PyProof.Rows PySem.Calls PySem.Spec PyProof.V PyProof.Rows.LCg
namespace Mine
theorem neA {a b : Nat} (h : a < b ∨ b < a) : @Ne Addr a b := fun e => by
  have e' : @Eq Nat a b := e
  omega
abbrev ZSt (n0 l1 l2 : Nat) (us vs : List Value) (i : Nat) (h : Heap) : Prop :=
  IsZip h (n0 + 4) (n0 + 2) (n0 + 3) .none ∧ IsPair h (n0 + 2) (.ref n0) (.ref (n0 + 1)) ∧ (∃ a b, IsPair h (n0 + 3) a b) ∧ h.IsListIter n0 l1 i ∧ h.IsListIter (n0 + 1) l2 i ∧ h.IsList l1 us.toArray ∧ h.IsList l2 vs.toArray
abbrev ZTurn (prog : Program) (w : World) (A : Around) (h₀ : Heap) (L : Addr) (m : Str → Option Value) (env : Env) (elt : PySem.Expr) (a b : Str) (scope : Scope) (cl : List (Str × Addr)) (s₂ : Shared) (as bs : List Int) (f : Int → Int → Int) (news : List (Addr × Obj)) : Prop :=
  ∀ (x y : Int) (tx ty : Tok) (I C D j0 j1 j2 j3 : Addr) (oI oC p0 p1 p2 p3 : Obj) (ys : List Value) (m₂ : Str → Option Value) (h : Heap) (tk : Nat) (E' : Value → Shared → Prop), x ∈ as → y ∈ bs → NsObj oC m₂ → m₂ a = some (.int x tx) → m₂ b = some (.int y ty) → Fr h₀ L h m →
    News h₀ L h ((I, oI) :: (C, oC) :: (D, lst ys) :: (j0, p0) :: (j1, p1) :: (j2, p2) :: (j3, p3) :: news) → Off3 I C D ((j0, p0) :: (j1, p1) :: (j2, p2) :: (j3, p3) :: news) → ((@Ne Nat I C) ∧ (@Ne Nat I D) ∧ (@Ne Nat C D)) →
    wpAny (model prog w) A (eval elt (compEnvC scope cl C env)) (CompEnd h₀ L m { s₂ with heap := h, toks := tk } I oI C oC D (lst ys) (fun _ => True) (fun v news' => KCfEl ((j0, p0) :: (j1, p1) :: (j2, p2) :: (j3, p3) :: news) (f x y) v news')) E' { s₂ with heap := h, toks := tk }
section
variable {prog : Program} {w : World} {A : Around} {E : Value → Shared → Prop} {s : Shared} {h₀ : Heap} {L : Addr} {m : Str → Option Value} {env : Env}
theorem zc_block {elt iter : PySem.Expr} {a b : Str} {pa pb tp : Pos} {kk : Nat} {scope : Scope} {cl : List (Str × Addr)} {pos : Pos} {s₂ : Shared} {n0 l1 l2 k1 k2 : Nat} {lo1 lo2 : Obj} {us vs : List Value} {as bs : List Int} {f : Int → Int → Int} {news : List (Addr × Obj)}
    {RR : Value → Addr → Result → Shared → Prop} (hh : A.handled = none) (hlen : us.length = vs.length) (hsz : us.length ≤ sizeLine) (ia : IntsAre us as) (ib : IntsAre vs bs)
    (hm1 : (l1, lo1) ∈ news) (hc1 : lo1.cls = .type "list") (hd1 : lo1.data = .seq us.toArray k1) (hm2 : (l2, lo2) ∈ news) (hc2 : lo2.cls = .type "list") (hd2 : lo2.data = .seq vs.toArray k2)
    (hst : ZSt n0 l1 l2 us vs 0 s₂.heap) (hn5 : n0 + 5 ≤ s₂.heap.objs.size) (hnew : ∀ b, n0 ≤ b → h₀.get? b = none) (hL : @LT.lt Nat _ L n0) (hnl : ∀ p ∈ news, @LT.lt Nat _ p.1 n0)
    (hcell : ∀ y ∈ scope.names, y.2 ≠ .cell) (hkind : scope.kind = .function) (hxa : scope.names.lookup a = some .local) (hxb : scope.names.lookup b = some .local) (hab : ¬ a = b)
    (F : Fr h₀ L s₂.heap m) (N : News h₀ L s₂.heap news) (turn : ZTurn prog w A h₀ L m env elt a b scope cl s₂ as bs f news)
    (hRR : ∀ D C h tk m' ys, Fr h₀ L h m → News h₀ L h ((D, lst ys) :: news) → Off1 D news → h.Ns C m' → h₀.get? C = none → h₀.get? D = none → C ≠ L → D ≠ L → C ≠ D → (∀ p ∈ news, p.1 ≠ C) → IntsAre ys (List.zipWith f as bs) → RR (.ref D) C (.ok .next) { s₂ with heap := h, toks := tk }) :
    wpAny (model prog w) A (newList []) (fun acc s₃ => wpAny (model prog w) A (newFunctionEnv scope env.globals cl [] env.qual none .none (some env)) (fun cenv s₄ =>
      codeAny (model prog w) A (.compStart (.ListComp elt [⟨.Tuple [.Name a pa, .Name b pb] kk tp, iter, [], 0⟩] scope pos) 0 (.ref (n0 + 4)) acc { cenv with scope := relabel scope env }) (RR acc cenv.locals) s₄) E s₃) E s₂ := by
  refine wpAny_newObj_type (wpAny_newFunctionEnv hcell (by intro y hy; simp at hy) (fun h₁ hns₁ hsb₁ => ?_) hkind)
  dsimp only at hns₁ hsb₁ ⊢
  generalize hH2 : s₂.heap.push { cls := .type "list", dict := none, data := .seq ([] : List Value).toArray } = H2 at hns₁ hsb₁ ⊢
  have hC : H2.objs.size = s₂.heap.objs.size + 1 := by rw [← hH2, Heap.size_push]
  have hDC : s₂.heap.objs.size ≠ H2.objs.size := by rw [hC]; exact Nat.ne_of_lt (Nat.lt_succ_self _)
  have below : ∀ b, b < s₂.heap.objs.size → b ≠ H2.objs.size ∧ b ≠ s₂.heap.objs.size := fun b hb => ⟨by rw [hC]; exact Nat.ne_of_lt (Nat.lt_succ_of_lt hb), Nat.ne_of_lt hb⟩
  have zlt : ∀ j, j ≤ 4 → n0 + j < s₂.heap.objs.size := fun j hj => by omega
  have old : ∀ b o, s₂.heap.get? b = some o → h₁.get? b = some o := fun b o e => hsb₁.extBut b o (below b (Heap.lt_size e)).1 (Heap.get?_push_of_some _ (hH2 ▸ Heap.get?_push_of_some _ e))
  have hacc : h₁.get? s₂.heap.objs.size = some (lst []) := hsb₁.extBut _ _ hDC (Heap.get?_push_of_some _ (hH2 ▸ Heap.get?_push_size _ rfl))
  have hl1 : l1 < n0 := hnl _ hm1
  have hl2 : l2 < n0 := hnl _ hm2
  have W : KTurns prog w A (.Tuple [.Name a pa, .Name b pb] kk tp) (n0 + 4) _ _ _ _ _ _ := KTurns.ofWalksU (WalksT.zip2 hh _ _ _ _ _ _ _ (ktu_apart n0 l1 l2 hl1 hl2) us.toArray vs.toArray).toU
  have hst₁ : ZSt n0 l1 l2 us vs 0 h₁ := W.frame _ _ _ hst fun b _ o e => old b o e
  have hD₀ : h₀.get? s₂.heap.objs.size = none := hnew _ (by omega)
  have hC₀ : h₀.get? H2.objs.size = none := hnew _ (by omega)
  have hDL : s₂.heap.objs.size ≠ L := neA (.inr (by omega))
  have hCL : H2.objs.size ≠ L := neA (.inr (by omega))
  have hnC : ∀ p ∈ news, p.1 ≠ H2.objs.size := fun p hp => neA (.inl (Nat.lt_trans (hnl p hp) (by omega)))
  have hnD : ∀ p ∈ news, p.1 ≠ s₂.heap.objs.size := fun p hp => neA (.inl (Nat.lt_of_lt_of_le (hnl p hp) (by omega)))
  have o1 : Off1 s₂.heap.objs.size news := Off3.one (I := H2.objs.size) (C := H2.objs.size) (Off3.of fun p hp => ⟨hnC p hp, hnC p hp, hnD p hp⟩)
  have hwr : ∀ b, b < n0 ∨ n0 + 5 ≤ b → b ∉ [n0 + 4, n0 + 3, n0, n0 + 1] := fun b hb hm => by
    simp only [List.mem_cons, List.not_mem_nil, or_false] at hm
    omega
  have loop : ∀ s₃ : Shared, s₃ = { s₂ with heap := h₁, toks := s₂.toks + ([] : List (Str × Value)).length } →
      codeAny (model prog w) A (.compLoop (.ListComp elt [⟨.Tuple [.Name a pa, .Name b pb] kk tp, iter, [], 0⟩] scope pos) 0 (.ref (n0 + 4)) (.ref s₂.heap.objs.size) (compEnvC scope cl H2.objs.size env))
        (RR (.ref s₂.heap.objs.size) H2.objs.size) s₃ := by
    rintro s₃ rfl
    refine kcp_loop
      (fun k s' => ∃ h' tk i ys m', s' = { s₂ with heap := h', toks := tk } ∧ i ≤ us.length ∧ k = us.length + 1 - i ∧ ys.length = i ∧ ZSt n0 l1 l2 us vs i h' ∧ Fr h₀ L h' m ∧ h'.Ns H2.objs.size m' ∧
        News h₀ L h' ((s₂.heap.objs.size, lst ys) :: news) ∧ IntsAre ys ((List.zipWith f as bs).take i)) ?_ (us.length + 1)
      ⟨h₁, _, 0, [], _, rfl, Nat.zero_le _, rfl, rfl, hst₁, F.keeps old, hns₁, fun p hp => ?_, by rw [List.take_zero]; exact .nil⟩
    · rintro k s' ⟨h', tk, i, ys, m', rfl, hi, rfl, hyl, hst', F', hn', N', iy⟩
      have nn : ∀ p ∈ (s₂.heap.objs.size, lst ys) :: news, @LT.lt Nat _ p.1 n0 ∨ @LE.le Nat _ (n0 + 5) p.1 := fun p hp => by
        rcases List.mem_cons.mp hp with rfl | hp
        · exact .inr hn5
        · exact .inl (hnl p hp)
      by_cases hlt : i < us.length
      · refine W.item i _ _ _ (by simp only [List.size_toArray]; omega) hst' fun v h₂ tk₂ hMd hk₂ => ?_
        refine W.go i v _ _ _ hMd fun h₃ hP hst₃ hk₃ => ?_
        obtain ⟨T, vals, rfl, ⟨x, y, hx, hy, rfl⟩, hT⟩ := hP
        obtain ⟨xi, tx, rfl, hxi⟩ := IntsAre.at ia i x (by simpa using hx)
        obtain ⟨yi, ty, rfl, hyi⟩ := IntsAre.at ib i y (by simpa using hy)
        have up₃ : ∀ (c : Nat) o, (c < n0 ∨ n0 + 5 ≤ c) → h'.get? c = some o → h₃.get? c = some o := fun c o hc e => hk₃ c o (hwr c hc) (hk₂ c o (hwr c hc) e)
        refine kcp_assign (env := compEnvC scope cl H2.objs.size env) hh hT (lookup_relabel_local hxa) (lookup_relabel_local hxb) (by simp [compEnvC, relabel, hkind]) (hn'.at' fun o e => up₃ _ o (.inr (by omega)) e) fun h₄ tk₄ hn₄ hs₄ => ?_
        have up : ∀ (c : Nat) o, (c < n0 ∨ n0 + 5 ≤ c) → c ≠ H2.objs.size → h'.get? c = some o → h₄.get? c = some o := fun c o h1 h2 e => hs₄ c o h2 (up₃ c o h1 e)
        have hst₄ : ZSt n0 l1 l2 us vs (i + 1) h₄ := W.frame _ _ _ hst₃ fun c hc o e => hs₄ c o (by
          simp only [List.mem_cons, List.not_mem_nil, or_false] at hc
          refine neA (.inl ?_)
          show @LT.lt Nat _ c H2.objs.size
          rcases hc with rfl | rfl | rfl | rfl | rfl | rfl | rfl <;> omega) e
        obtain ⟨zq, pq, ⟨ta, tb, tq⟩, ⟨o1, ho1, hi1⟩, ⟨o2, ho2, hi2⟩, _⟩ := id hst₄
        obtain ⟨oI, heI⟩ : ∃ o : Obj, h₄.get? (n0 + 4) = some o := ⟨_, zq⟩
        obtain ⟨p2, he2⟩ : ∃ o : Obj, h₄.get? (n0 + 2) = some o := ⟨_, pq⟩
        obtain ⟨p3, he3⟩ : ∃ o : Obj, h₄.get? (n0 + 3) = some o := ⟨_, tq⟩
        obtain ⟨oC, heC, hoC⟩ := ns_obj hn₄
        have F₄ : Fr h₀ L h₄ m := ⟨F'.ns.at' fun o e => up _ o (.inl hL) (Ne.symm hCL) e, fun c o e => up c o (.inl (Nat.lt_of_not_le fun q => by rw [hnew c q] at e; cases e)) (fun q => by rw [q, hC₀] at e; cases e) (F'.keep c o e), F'.above⟩
        have zn : ∀ j : Nat, h₀.get? (n0 + j) = none := fun j => hnew _ (by omega)
        have zL : ∀ j : Nat, (n0 + j) ≠ L := fun j => neA (.inr (by omega))
        have N₄ : News h₀ L h₄ ((n0 + 4, oI) :: (H2.objs.size, oC) :: (s₂.heap.objs.size, lst ys) :: (n0, o1) :: (n0 + 1, o2) :: (n0 + 2, p2) :: (n0 + 3, p3) :: news) := fun q hq => by
          rcases List.mem_cons.mp hq with rfl | hq
          · exact ⟨heI, zL 4, zn 4⟩
          rcases List.mem_cons.mp hq with rfl | hq
          · exact ⟨heC, hCL, hC₀⟩
          rcases List.mem_cons.mp hq with rfl | hq
          · exact ⟨up _ _ (.inr hn5) hDC (N' _ (.head _)).1, hDL, hD₀⟩
          rcases List.mem_cons.mp hq with rfl | hq
          · exact ⟨ho1, zL 0, zn 0⟩
          rcases List.mem_cons.mp hq with rfl | hq
          · exact ⟨ho2, zL 1, zn 1⟩
          rcases List.mem_cons.mp hq with rfl | hq
          · exact ⟨he2, zL 2, zn 2⟩
          rcases List.mem_cons.mp hq with rfl | hq
          · exact ⟨he3, zL 3, zn 3⟩
          · exact ⟨up _ _ (.inl (hnl q hq)) (hnC q hq) (N' q (.tail _ hq)).1, (N' q (.tail _ hq)).2⟩
        have off₄ : Off3 (n0 + 4) H2.objs.size s₂.heap.objs.size ((n0, o1) :: (n0 + 1, o2) :: (n0 + 2, p2) :: (n0 + 3, p3) :: news) := by
          have g : ∀ j : Nat, j < 4 → @Ne Addr (n0 + j) (n0 + 4) ∧ @Ne Addr (n0 + j) H2.objs.size ∧ @Ne Addr (n0 + j) s₂.heap.objs.size := fun j hj => ⟨neA (.inl (by omega)), neA (.inl (by omega)), neA (.inl (by omega))⟩
          exact ⟨g 0 (by omega), g 1 (by omega), g 2 (by omega), g 3 (by omega), Off3.of fun p hp => ⟨neA (.inl (Nat.lt_of_lt_of_le (hnl p hp) (by omega))), hnC p hp, hnD p hp⟩⟩
        refine wpAny_mono (turn xi yi tx ty (n0 + 4) H2.objs.size s₂.heap.objs.size n0 (n0 + 1) (n0 + 2) (n0 + 3) oI oC o1 o2 p2 p3 ys _ h₄ tk₄ _ (List.mem_of_getElem? hxi) (List.mem_of_getElem? hyi) hoC (by simp [hab]) (by simp) F₄ N₄ off₄ ⟨neA (.inl (by omega)), neA (.inl (by omega)), Ne.symm hDC⟩) (fun v s₅ h₅ => ?_) fun _ _ e => e
        obtain ⟨h₅, tk₅, news₅, rfl, F₅, N₅, off₅, hS₅, rfl, tv, rfl⟩ := h₅
        have same : ∀ c o, (c, o) ∈ (n0 + 4, oI) :: (H2.objs.size, oC) :: (s₂.heap.objs.size, lst ys) :: (n0, o1) :: (n0 + 1, o2) :: (n0 + 2, p2) :: (n0 + 3, p3) :: news → h₄.get? c = some o ∧ h₅.get? c = some o := fun c o hm => ⟨(N₄ _ hm).1, (N₅ _ hm).1⟩
        have zD := (same s₂.heap.objs.size (lst ys) (by simp)).2
        have zC := (same H2.objs.size oC (by simp)).2
        have hst₅ : ZSt n0 l1 l2 us vs (i + 1) h₅ := W.frame _ _ _ hst₄ fun c hc o e => by
          have key : ∀ o', (c, o') ∈ (n0 + 4, oI) :: (H2.objs.size, oC) :: (s₂.heap.objs.size, lst ys) :: (n0, o1) :: (n0 + 1, o2) :: (n0 + 2, p2) :: (n0 + 3, p3) :: news → h₅.get? c = some o := fun o' hm => by
            obtain ⟨e1, e2⟩ := same c o' hm
            rw [e1] at e; cases e; exact e2
          simp only [List.mem_cons, List.not_mem_nil, or_false] at hc
          rcases hc with rfl | rfl | rfl | rfl | rfl | rfl | rfl
          · exact key oI (by simp)
          · exact key p2 (by simp)
          · exact key p3 (by simp)
          · exact key o1 (by simp)
          · exact key o2 (by simp)
          · exact key lo1 (by simp [hm1])
          · exact key lo2 (by simp [hm2])
        refine append_at (hsz := by show ys.toArray.size ≤ sizeLine; rw [List.size_toArray, hyl]; exact Nat.le_trans hi hsz) zD fun h₆ hs₆ hD₆ => ?_
        refine ⟨us.length + 1 - (i + 1), by omega, h₆, tk₅, i + 1, ys ++ [.int (f xi yi) tv], _, rfl, hlt, rfl, by rw [List.length_append, List.length_singleton, hyl], W.frame _ _ _ hst₅ fun c hc o e => hs₆.extBut c o (neA (.inl ?_)) e, F₅.change hs₆ hDL hD₀,
          (hoC.ns zC).sameBut hs₆ (Ne.symm hDC), fun q hq => ?_, ?_⟩
        · simp only [List.mem_cons, List.not_mem_nil, or_false] at hc
          show @LT.lt Nat _ c s₂.heap.objs.size
          rcases hc with rfl | rfl | rfl | rfl | rfl | rfl | rfl <;> omega
        · rcases List.mem_cons.mp hq with rfl | hq
          · exact ⟨hD₆.trans (congrArg some (lst_snoc ys _)), hDL, hD₀⟩
          · have := N₅ q (by simp [hq])
            exact ⟨hs₆.extBut _ _ (hnD q hq) this.1, this.2⟩
        · rw [List.take_add_one, List.getElem?_zipWith, hxi, hyi]
          simpa using IntsAre.append iy (.cons (f xi yi) tv .nil)
      · have hin : i = us.length := Nat.le_antisymm hi (Nat.not_lt.mp hlt)
        subst hin
        have hmin : us.length = min us.toArray.size vs.toArray.size := by simp only [List.size_toArray]; omega
        refine W.done _ _ _ (by rw [← hmin]; exact hst') fun h₂ tk₂ hk₂ => ?_
        have up₂ : ∀ (c : Nat) o, (c < n0 ∨ n0 + 5 ≤ c) → h'.get? c = some o → h₂.get? c = some o := fun c o hc e => hk₂ c o (hwr c hc) e
        refine hRR _ _ h₂ tk₂ _ ys ⟨F'.ns.at' fun o e => up₂ _ o (.inl hL) e, fun c o e => up₂ c o (.inl (Nat.lt_of_not_le fun q => by rw [hnew c q] at e; cases e)) (F'.keep c o e), F'.above⟩
          (fun p hp => ⟨up₂ _ _ (nn p hp) (N' p hp).1, (N' p hp).2⟩) o1 (hn'.at' fun o e => up₂ _ o (.inr (by omega)) e) hC₀ hD₀ hCL hDL (Ne.symm hDC) hnC ?_
        rw [List.take_of_length_le] at iy
        · exact iy
        · rw [List.length_zipWith, ← ia.length]; exact Nat.min_le_left _ _
    · rcases List.mem_cons.mp hp with rfl | hp
      · exact ⟨hacc, hDL, hD₀⟩
      · exact ⟨old _ _ (N p hp).1, (N p hp).2⟩
  exact codeAny_compStart_list (loop _ rfl) (wpAny_pyIter_zip hst₁.1 (loop _ rfl))
end
end Mine
end
section
open PySem PySem.W PyProof.Rows PySem.Calls PySem.Spec PyProof.V PyProof.Rows.LCg
namespace Mine
def ZSrc (prog : Program) (w : World) (A : Around) (h₀ : Heap) (L : Addr) (m : Str → Option Value) (env : Env) (elt : PySem.Expr) (a b : Str) (scope : Scope) (cl : List (Str × Addr)) (Fin : Shared → List Value → List (Addr × Obj) → Prop) (xv : Value) (s₁ : Shared) : Prop :=
  ∃ (n0 l1 l2 k1 k2 : Nat) (lo1 lo2 : Obj) (us vs : List Value) (as bs : List Int) (f : Int → Int → Int) (news : List (Addr × Obj)), xv = .ref (n0 + 4) ∧ A.handled = none ∧ us.length = vs.length ∧ us.length ≤ sizeLine ∧ IntsAre us as ∧ IntsAre vs bs ∧
    (l1, lo1) ∈ news ∧ lo1.cls = .type "list" ∧ lo1.data = .seq us.toArray k1 ∧ (l2, lo2) ∈ news ∧ lo2.cls = .type "list" ∧ lo2.data = .seq vs.toArray k2 ∧
    ZSt n0 l1 l2 us vs 0 s₁.heap ∧ n0 + 5 ≤ s₁.heap.objs.size ∧ (∀ b, n0 ≤ b → h₀.get? b = none) ∧ @LT.lt Nat _ L n0 ∧ (∀ p ∈ news, @LT.lt Nat _ p.1 n0) ∧ Fr h₀ L s₁.heap m ∧ News h₀ L s₁.heap news ∧ ZTurn prog w A h₀ L m env elt a b scope cl s₁ as bs f news ∧
    ∀ ys, IntsAre ys (List.zipWith f as bs) → Fin s₁ ys news
section
variable {prog : Program} {w : World} {A : Around} {E : Value → Shared → Prop} {s : Shared} {h₀ : Heap} {L : Addr} {m : Str → Option Value} {env : Env}
theorem zc_assign {elt iter : PySem.Expr} {a b y : Str} {pa pb tp py : Pos} {kk : Nat} {scope : Scope} {cl : List (Str × Addr)} {pos spos : Pos} {Q : Flow → Shared → Prop} (_F₀ : Fr h₀ L s.heap m) (hLe : env.locals = L)
    (hsw : swapsWith (.ListComp elt [⟨.Tuple [.Name a pa, .Name b pb] kk tp, iter, [], 0⟩] scope pos) (some (.Name y py)) spos.line env = pure true)
    (hclos : closureFor scope env = pure cl) (hcell : ∀ z ∈ scope.names, z.2 ≠ .cell) (hkind : scope.kind = .function)
    (hnames : ∀ z ∈ scope.names, z.2 = .local → scope.names.lookup z.1 = some .local) (hxa : scope.names.lookup a = some .local) (hxb : scope.names.lookup b = some .local) (hab : ¬ a = b)
    (hy : env.kindOf y = some .local) (hp : (env.scope.kind == .class || (env.scope.kind == .module && env.locals != env.globals)) = false)
    (h : wpAny (model prog w) A (eval iter env) (ZSrc prog w A h₀ L m env elt a b scope cl (fun s₂ => FinA h₀ L m s₂ y Q)) E s)
    (hs : ∀ x, foldedSetIterable iter env x = pure x := by intro _; rfl) :
    wpAny (model prog w) A (exec (.Assign [.Name y py] (.ListComp elt [⟨.Tuple [.Name a pa, .Name b pb] kk tp, iter, [], 0⟩] scope pos) spos) env) Q E s := by
  subst hLe
  rw [exec_Assign_Name_used _ _ _ _ hsw]
  refine wpAny_bind (wpAny_standAt (wpAny_bind ?_))
  show wpAny _ A (do let _ ← comprehension (.ListComp elt [⟨.Tuple [.Name a pa, .Name b pb] kk tp, iter, [], 0⟩] scope pos) scope env _ (newList []) false (eval iter env) (some (assign (.Name y py) env))) _ _ s
  refine wpAny_bind (wpAny_mono (wpAny_comprehension_free (use := some (assign (.Name y py) env)) (Q := fun _ s' => Q .next s') rfl hs hclos hkind hnames
    (wpAny_mono h (fun xv s₁ h₁ => ?_) fun _ _ e => e)) (fun _ s' hq => wpAny_pure (wpAny_pure hq)) fun _ _ e => e)
  obtain ⟨n0, l1, l2, k1, k2, lo1, lo2, us, vs, as, bs, f, news, rfl, hh, hlen, hsz, ia, ib, hm1, hc1, hd1, hm2, hc2, hd2, hst, hn5, hnew, hL, hnl, F, N, turn, fin⟩ := h₁
  refine wpAny_pyIter_zip hst.1 ?_
  refine zc_block hh hlen hsz ia ib hm1 hc1 hd1 hm2 hc2 hd2 hst hn5 hnew hL hnl hcell hkind hxa hxb hab F N turn ?_
  intro D C h' tk m' ys F' N' o1 hn hC₀ hD₀ hCL hDL hCD offC iy
  show wpAny _ A (assign (.Name y py) env (.ref D)) _ _ _
  refine wpAny_assign_Name (wpAny_storeName_local hy F'.ns (fun h₂ hn₂ hs₂ => ?_) hp)
  have hL₀ : h₀.get? env.locals = none := Heap.get?_none_of_le F'.above
  have F₂ : Fr h₀ env.locals h₂ (fun z => if z = y then some (.ref D) else m z) := ⟨hn₂, fun b o e => hs₂.extBut b o (fun q => by rw [q, hL₀] at e; cases e) (F'.keep b o e), F'.above⟩
  refine ⟨m', hn.sameBut hs₂ hCL, fun h'' hs'' => fin ys iy D h'' _ (F₂.change hs'' hCL hC₀) (fun p hp => ?_) o1⟩
  have z : h₂.get? p.1 = some p.2 := hs₂.extBut _ _ (N' p hp).2.1 (N' p hp).1
  refine ⟨hs''.extBut _ _ ?_ z, (N' p hp).2⟩
  rcases List.mem_cons.mp hp with rfl | hp
  · exact Ne.symm hCD
  · exact offC p hp
theorem zc_call {elt : PySem.Expr} {a b : Str} {scope : Scope} {cl : List (Str × Addr)} {l1 l2 : Addr} {k1 k2 : Nat} {lo1 lo2 : Obj} {us vs : List Value} {as bs : List Int} {news : List (Addr × Obj)} {y : Str} {Q : Flow → Shared → Prop} (f : Int → Int → Int)
    (hh : A.handled = none) (F : Fr h₀ L s.heap m) (N : News h₀ L s.heap news) (hm1 : (l1, lo1) ∈ news) (hc1 : lo1.cls = .type "list") (hd1 : lo1.data = .seq us.toArray k1) (hm2 : (l2, lo2) ∈ news) (hc2 : lo2.cls = .type "list") (hd2 : lo2.data = .seq vs.toArray k2)
    (ia : IntsAre us as) (ib : IntsAre vs bs) (hlen : as.length = bs.length) (hsz : as.length ≤ sizeLine)
    (turn : ZTurn prog w A h₀ L m env elt a b scope cl s as bs f news) (fin : ∀ ys, IntsAre ys (List.zipWith f as bs) → FinA h₀ L m s y Q ys news) :
    wpAny (model prog w) A (call (.type "zip") [.ref l1, .ref l2]) (ZSrc prog w A h₀ L m env elt a b scope cl (fun s₂ => FinA h₀ L m s₂ y Q)) E s := by
  have hl1 : s.heap.IsList l1 us.toArray := ⟨lo1, (N _ hm1).1, hc1, k1, hd1⟩
  have hl2 : s.heap.IsList l2 vs.toArray := ⟨lo2, (N _ hm2).1, hc2, k2, hd2⟩
  refine call_zip_2 hl1 hl2 fun h' hz hTI hTO hi1 hi2 hsz' hk => ?_
  refine ⟨s.heap.objs.size, l1, l2, k1, k2, lo1, lo2, us, vs, as, bs, f, news, rfl, hh, by rw [ia.length, ib.length, hlen], by rw [ia.length]; exact hsz, ia, ib, hm1, hc1, hd1, hm2, hc2, hd2,
    ⟨hz, hTI, ⟨_, _, hTO⟩, hi1, hi2, hl1.at fun o e => hk _ o e, hl2.at fun o e => hk _ o e⟩, Nat.le_of_eq hsz'.symm, fun b hb => ktu_new F hb, F.ns.lt, fun p hp => Heap.lt_size (N p hp).1, F.keeps hk, N.grown hk, turn, fin⟩
end
end Mine
end
section
open PySem PySem.W PyProof.Rows PySem.Calls
namespace Mine
abbrev ent (w : World) (n : Str) (t : Tok) (v : Value) : DictEntry := ⟨PyData.keyHash w.params n, .str n t, v⟩
abbrev ringD (w : World) (t1 t2 t3 t4 t5 t6 t7 : Tok) (zl : Addr) : Obj :=
  dictOf [ent w "q" t1 (.int 3329 t2), ent w "n" t3 (.int 256 t4), ent w "ntt_zetas" t5 (.ref zl), ent w "ntt_f" t6 (.int 3303 t7)] 4
abbrev polyD (w : World) (t1 t2 : Tok) (rg l : Addr) : Obj := dictOf [ent w "parent" t1 (.ref rg), ent w "coeffs" t2 (.ref l)] 2
def bm0 (x0 x1 y0 y1 z : Int) : Int := Int.fmod (x0 * y0 + z * x1 * y1) 3329
def bm1 (x0 x1 y0 y1 : Int) : Int := Int.fmod (x1 * y0 + x0 * y1) 3329
def quad (zz a b : List Int) (i : Int) : List Int :=
  [bm0 (a.getD (4 * i + 0).toNat 0) (a.getD (4 * i + 1).toNat 0) (b.getD (4 * i + 0).toNat 0) (b.getD (4 * i + 1).toNat 0) (zz.getD (64 + i).toNat 0),
   bm1 (a.getD (4 * i + 0).toNat 0) (a.getD (4 * i + 1).toNat 0) (b.getD (4 * i + 0).toNat 0) (b.getD (4 * i + 1).toNat 0),
   bm0 (a.getD (4 * i + 2).toNat 0) (a.getD (4 * i + 3).toNat 0) (b.getD (4 * i + 2).toNat 0) (b.getD (4 * i + 3).toNat 0) (-(zz.getD (64 + i).toNat 0)),
   bm1 (a.getD (4 * i + 2).toNat 0) (a.getD (4 * i + 3).toNat 0) (b.getD (4 * i + 2).toNat 0) (b.getD (4 * i + 3).toNat 0)]
def coefL (zz a b : List Int) (is : List Int) : List Int := is.flatMap (quad zz a b)
local macro_rules | `(tactic| k_room) => `(tactic| ((try simp only [depth_under_make, depth_under_kw, depth_in1, depth_deeper]); (try dsimp only); omega))
local macro_rules | `(tactic| k_units) => `(tactic| assumption)
local macro_rules | `(tactic| walk_at "binaryOp Mult int int") => `(tactic| (refine mul_sz (by (first | exact AllSz.at (by assumption) _ | exact Sz.neg (AllSz.at (by assumption) _) | exact Sz.mul (AllSz.at (by assumption) _) (AllSz.at (by assumption) _) | exact Sz.mul (Sz.neg (AllSz.at (by assumption) _)) (AllSz.at (by assumption) _))) (by (first | exact AllSz.at (by assumption) _ | exact Sz.neg (AllSz.at (by assumption) _) | exact Sz.mul (AllSz.at (by assumption) _) (AllSz.at (by assumption) _) | exact Sz.mul (Sz.neg (AllSz.at (by assumption) _)) (AllSz.at (by assumption) _))) (by decide) ?_))
local macro_rules | `(tactic| walk_at "subscriptTail") => `(tactic| (k_here; (with_reducible show wpAny _ _ (subscriptTail _ _ (Value.ref _) (Value.int _ _)) _ _ _); (with_unfolding_all refine' item_int ?k1 ?k2 ?k3 ?k4 ?k5 ?k6 ?k7 ?k8 ?_ ?k9 ?k10); (case k1 => k_asm); (case k2 => k_mem); (case k3 => assumption); (case k4 => rfl); (case k5 => rfl); (case k6 => omega); (case k7 => omega); (case k8 => omega); (case k9 => with_unfolding_all rfl); (case k10 => (intro _; with_unfolding_all rfl)); intro st'))
local macro_rules | `(tactic| walk_at "inplaceOp Add ref ref") => `(tactic| (k_here; k_dflt (refine' iadd_list ?F ?N ?b ?ne ?U ?z ?_; (case F => k_asm); (case N => k_asm); (case b => k_mem); (case U => k_upd); (case ne => (simp only [List.length_cons]; omega)); (case z => (simp only [List.length_cons, List.length_nil]; omega))); intro h' F' N'; (try k_sweep)))
theorem quad_len (zz a b : List Int) (i : Int) : (quad zz a b i).length = 4 := rfl
theorem coefL_len (zz a b is : List Int) : (coefL zz a b is).length = 4 * is.length := by
  induction is with
  | nil => rfl
  | cons i r ih => simp only [coefL, List.flatMap_cons, List.length_append, quad_len] at *; simp only [List.length_cons]; omega
theorem coefL_snoc (zz a b is : List Int) (i : Int) : coefL zz a b (is ++ [i]) = coefL zz a b is ++ quad zz a b i := by simp [coefL]
theorem coef_core {w : World} {A A₀ : Around} {s : Shared} {L : Addr} {h₀ base : Heap} {m mg mb : Str → Option Value} {loose : List Str} {mean : ExcName → Option Value}
    {env : Env} {outer : List Env} {R : Result → Shared → Prop} {x dx lxx lx ly rg dr zl : Addr} {vx vy zs : List Value} {nx ny : Nat} {t1 t2 t3 t4 t5 t6 t7 u1 u2 : Tok} {a b zz : List Int}
    (B : Below A₀ base outer h₀) (F : Fr h₀ L s.heap m) (X₀ : (Mine.hd.heap_1 w.params).In h₀) (T : Top Mine.view loose mean mg mb h₀) (hA : A.frames = some (env :: outer)) (hf : env.frame = some L) (hke : env.scope.kind = .function)
    (hh : A.handled = none) (hu : A.units < cLine) (hroom : A.depth + 10 < recursionLimit)
    (N : News h₀ L s.heap [(lx, listOf vx.toArray nx), (ly, listOf vy.toArray ny), (x, instObj 426 dx), (dx, polyD w u1 u2 rg lxx), (rg, instObj 282 dr), (dr, ringD w t1 t2 t3 t4 t5 t6 t7 zl), (zl, LCg.lst zs)])
    (Ix : IntsAre vx a) (Iy : IntsAre vy b) (Iz : IntsAre zs zz) (la : a.length = 256) (lb : b.length = 256) (lz : zz.length = 128) (Sa : AllSz 4000000 a) (Sb : AllSz 4000000 b) (Sc : AllSz 16 zz)
    (hR : ∀ (h' : Heap) (tk : Nat) (vs : List Value) (nl : Nat) (l' : Addr), (∀ b o, s.heap.get? b = some o → h'.get? b = some o) → h'.get? l' = some (listOf vs.toArray nl) → s.heap.get? l' = none → IntsAre vs (coefL zz a b (rangeKs 0 64)) → R (.ok (.ret (.ref l'))) { s with heap := h', toks := tk }) :
    codeAny (model PR w) A (.call (.ref 397) ⟨[.ref x, .ref lx, .ref ly], []⟩) R s := by
  unfold PR
  revert X₀
  k_fill
  intro X₀
  obtain ⟨ahd, adp, afr, agd, aun⟩ := A
  dsimp only at hA hh hu hroom
  subst hA hh
  refine' call_keep B F X₀ N T rfl hf hke ?k6 ?k7 ?k8 ?k9 ?kB ?_ ?c2 ?c3 ?c4 ?c5
  case k6 => k_is
  case k7 => k_is
  case k8 => k_room
  case k9 => exact BindsTo.of_eq rfl
  case kB => exact locs rfl
  case c2 => exact rfl
  case c3 => exact rfl
  case c4 => exact rfl
  case c5 => decide
  intro g' L' h' hgk hLL F' N' B' X' T'
  (try dsimp only)
  (try k_fold)
  (repeat' ((fail_if_success (with_reducible show wpAny _ _ (pyIter (Value.ref _)) _ _ _)); (fail_if_success (with_reducible show InvEndN _ _ _ _ _ _ _)); (fail_if_success (with_reducible show InvPostN _ _ _ _ _ _ _ _ _)); (first | (k_unfold; (try dsimp only)) | (k_end; wrow_close) | walk1 | (dsimp only; walk1) | (leave1; walk_say "STEP leave1"; try dsimp only) | fail "no step")))
  rename News _ _ _ _ => lN
  rename Fr _ _ _ _ => lF
  rename IsRange _ _ _ _ _ _ _ _ => rg
  have kMk := kstMark
  with_unfolding_all refine' kst_range (σ := List Value × List Int × Nat) (fun c => (_, listOf c.1.toArray c.2.2) :: _) (fun c => [(Str.ofString "new_coeffs", Value.ref _)]) (fun c => IntsAre c.1 c.2.1) [Str.ofString "r0", Str.ofString "r1", Str.ofString "r2", Str.ofString "r3", Str.ofString "new_coeffs"] (fun pre c => c.2.1 = coefL zz a b pre) ([], [], 0) (by rfl) rg (by decide) (by rfl) lF lN ?kf ?kk ?kp ?_ ?_
  case kf => exact .nil
  case kk =>
    intro p hp
    rcases List.mem_singleton.mp hp with rfl
    rfl
  case kp => rfl
  · clear lF lN
    rintro ⟨vs, out, n⟩ pre k t u h tk own hkeq hlt hoff hf hp F₁ N₁
    dsimp only at hf hp F₁ N₁
    simp only [List.map_cons, List.map_nil] at hoff
    simp only [List.cons_append, List.nil_append] at N₁
    have hvl : vs.length = 4 * pre.length := by rw [hf.length, hp, coefL_len]
    have hlt' : pre.length < 64 := hlt
    try k_fold
    (repeat' ((fail_if_success (with_reducible show wpAny _ _ (pyIter (Value.ref _)) _ _ _)); (fail_if_success (with_reducible show InvEndN _ _ _ _ _ _ _)); (fail_if_success (with_reducible show InvPostN _ _ _ _ _ _ _ _ _)); (first | (k_unfold; (try dsimp only)) | (k_end; wrow_close) | walk1 | (dsimp only; walk1) | (leave1; walk_say "STEP leave1"; try dsimp only) | fail "no step")))
    rename News _ _ _ _ => nE
    rename Fr _ _ _ _ => fE
    show InvEndN _ _ _ _ _ _ _
    refine' kst_end (_, out ++ quad zz a b k, n + 1) fE nE ?hn ?ho ?ha ?hf ?hk ?hr ?hp
    case hn => first | kst_in | kst_inAny
    case ha => rfl
    case ho => first | (intro p hp; kst_mem) | kst_anyIn
    case hf => exact IntsAre.append hf (.cons _ _ (.cons _ _ (.cons _ _ (.cons _ _ .nil))))
    case hk => kst_all
    case hr =>
      intro z h1 h2 h3
      have h4 := h2 _ (.head _)
      dsimp only at h4
      simp only [List.contains_cons, List.contains_nil, Bool.or_false, Bool.or_eq_false_iff, beq_eq_false_iff_ne, ne_eq] at h3
      simp [h1, h3, h4, kstB]
    case hp => rw [hp, coefL_snoc]
  · clear lF lN
    rintro ⟨vs, out, n⟩ u h tk hf hp F₁ N₁
    dsimp only at hf hp F₁ N₁
    (repeat' ((fail_if_success (with_reducible show wpAny _ _ (pyIter (Value.ref _)) _ _ _)); (fail_if_success (with_reducible show InvEndN _ _ _ _ _ _ _)); (fail_if_success (with_reducible show InvPostN _ _ _ _ _ _ _ _ _)); (first | (k_unfold; (try dsimp only)) | (k_end; wrow_close) | walk1 | (dsimp only; walk1) | (leave1; walk_say "STEP leave1"; try dsimp only) | fail "no step")))
    have hst := stays_of N hgk F₁ fun p hp => (N₁ p (.tail _ hp)).1
    refine hR _ _ vs n _ hst (N₁ _ (.head _)).1 (fresh_of hgk (N₁ _ (.head _)).2.2 ?_) (hp ▸ hf)
    intro hm
    simp only [List.map_cons, List.map_nil, List.mem_cons, List.not_mem_nil, or_false] at hm
    rcases hm with e | e | e | e | e | e | e <;> (subst e; omega)
theorem Fr.stay {h₀ h h' : Heap} {L : Addr} {m : Str → Option Value} (F : Fr h₀ L h m) (k : ∀ b o, h.get? b = some o → h'.get? b = some o) : Fr h₀ L h' m := F.keeps k
theorem news_add {h₀ h h' : Heap} {L l : Addr} {m : Str → Option Value} {o : Obj} {news : List (Addr × Obj)} (F : Fr h₀ L h m) (N : News h₀ L h news) (k : ∀ b o, h.get? b = some o → h'.get? b = some o) (hl : h'.get? l = some o) (hf : h.get? l = none) :
    News h₀ L h' ((l, o) :: news) := by
  intro p hp
  rcases List.mem_cons.mp hp with rfl | hp
  · refine ⟨hl, ?_, ?_⟩
    · intro e
      obtain ⟨oL, _, _, hL, _⟩ := F.ns
      dsimp only at e
      rw [e, hL] at hf
      cases hf
    · cases q : h₀.get? l with
      | none => rfl
      | some o' => rw [F.keep _ _ q] at hf; cases hf
  · exact ⟨k _ _ (N p hp).1, (N p hp).2⟩
def AllNe (d : Nat) : List (Addr × Obj) → Prop
  | [] => True
  | p :: r => @Ne Nat p.1 d ∧ AllNe d r
theorem allNe_of {h₀ h : Heap} {L l : Addr} : ∀ {news : List (Addr × Obj)}, News h₀ L h news → h.get? l = none → AllNe l news
  | [], _, _ => trivial
  | p :: r, N, hl => ⟨fun e => (by have h1 := (N p (.head _)).1; rw [show p.1 = l from e, hl] at h1; cases h1), allNe_of (fun q hq => N q (.tail _ hq)) hl⟩
theorem coefL_len256 {zz a b : List Int} {vs : List Value} (h : IntsAre vs (coefL zz a b (rangeKs 0 64))) : vs.length = 256 := by
  rw [h.length, coefL_len, rangeKs_length]
theorem own_callKW {M : Model} {A : Around} {E : Value → Shared → Prop} {s : Shared} {K : Frag} {env : Env} {pos : Pos} {x C : Addr} {ox : Obj} {od : Option Obj} {first : List Value} {Q : Value → Shared → Prop} {e : Expr} {rest : List Expr} {kws : List Keyword}
    (_X : K.In s.heap) (_I : InstAt s.heap x ox C od) (hd : ox.data = .plain) (hall : (backToKw pos (keywordEach kws env)).all (·.1.isSome) = true)
    (h : wpAny M A (spliced (backTo pos (starEach (e :: rest) env))) (fun vs s₁ => wpAny M A (evalAll ((backToKw pos (keywordEach kws env)).map (·.2)))
      (fun ks s₂ => kco_P K x C ox od s₂.heap ∧ wpAny M A (call (.ref x) (first ++ vs) (((backToKw pos (keywordEach kws env)).filterMap (·.1)).zip ks)) Q E s₂) E s₁) E s)
    (hplain : ((backTo pos (starEach (e :: rest) env)).any (·.1) || (backToKw pos (keywordEach kws env)).any (·.1.isNone)) = false := by rfl) (he : starEach (e :: rest) env = (false, eval e env) :: starEach rest env := by rfl) :
    wpAny M A (callWith pos (.ref x) first (backTo pos (starEach (e :: rest) env)) (backToKw pos (keywordEach kws env))) Q E s :=
  kco_callWith_of hplain hd (evalArgs_kw2 hall h he)
theorem len256 {prog : Program} {w : World} {A : Around} {E : Value → Shared → Prop} {s : Shared} {h₀ : Heap} {L l : Addr} {news : List (Addr × Obj)} {us : List Value} {c : Nat} {Q : Value → Shared → Prop} (N : News h₀ L s.heap news) (hm : (l, listOf us.toArray c) ∈ news) (e : us.length = 256)
    (h : Q (.int 256 (s.toks + 1)) { s with toks := s.toks + 1 + 1 }) : wpAny (model prog w) A (call (.builtin "len") [.ref l]) Q E s := kst_len N hm e (by decide) h
local macro_rules | `(tactic| walk_at "call builtin:len") => `(tactic| (k_here; k_dflt (refine' len256 ?k1 ?k2 ?k3 ?_; (case k1 => k_asm); (case k2 => k_memK); (case k3 => with_reducible assumption))))
local macro_rules | `(tactic| walk_at "callWith") => `(tactic| (k_here; k_dflt (refine' own_callKW ?k1 ?k2 ?k3 ?k4 ?_; (case k1 => k_in); (case k2 => k_inst); (case k3 => rfl); (case k4 => exact rfl); k_whole)))
local macro_rules | `(tactic| k_units) => `(tactic| ((try simp only [units_deeper]); (try dsimp only); omega))
theorem mul_core {w : World} {A A₀ : Around} {s : Shared} {L : Addr} {h₀ base : Heap} {m mg mb : Str → Option Value} {loose : List Str} {mean : ExcName → Option Value}
    {env : Env} {outer : List Env} {R : Result → Shared → Prop} {x dx lx y dy ly rg dr zl : Addr} {vx vy zs : List Value} {nx ny : Nat} {t1 t2 t3 t4 t5 t6 t7 u1 u2 u3 u4 : Tok} {a b zz : List Int}
    (B : Below A₀ base outer h₀) (F : Fr h₀ L s.heap m) (X₀ : (Mine.hd.heap_1 w.params).In h₀) (T : Top Mine.view loose mean mg mb h₀) (hA : A.frames = some (env :: outer)) (hf : env.frame = some L) (hke : env.scope.kind = .function)
    (hh : A.handled = none) (hu : A.units + 40 < cLine) (hroom : A.depth + 20 < recursionLimit)
    (N : News h₀ L s.heap [(x, instObj 426 dx), (dx, polyD w u1 u2 rg lx), (lx, listOf vx.toArray nx), (y, instObj 426 dy), (dy, polyD w u3 u4 rg ly), (ly, listOf vy.toArray ny), (rg, instObj 282 dr), (dr, ringD w t1 t2 t3 t4 t5 t6 t7 zl), (zl, LCg.lst zs)])
    (Ix : IntsAre vx a) (Iy : IntsAre vy b) (Iz : IntsAre zs zz) (la : a.length = 256) (lb : b.length = 256) (lz : zz.length = 128) (Sa : AllSz 4000000 a) (Sb : AllSz 4000000 b) (Sc : AllSz 16 zz)
    (hR : ∀ (h' : Heap) (tk : Nat) (vs : List Value) (nl : Nat) (l' dx' x' : Addr) (v1 v2 : Tok), (∀ b o, s.heap.get? b = some o → h'.get? b = some o) → h'.get? x' = some (instObj 426 dx') → h'.get? dx' = some (polyD w v1 v2 rg l') → h'.get? l' = some (listOf vs.toArray nl) →
      s.heap.get? x' = none → s.heap.get? dx' = none → s.heap.get? l' = none → IntsAre vs (coefL zz a b (rangeKs 0 64)) → R (.ok (.ret (.ref x'))) { s with heap := h', toks := tk }) :
    codeAny (model PR w) A (.call (.ref 423) ⟨[.ref x, .ref y], []⟩) R s := by
  unfold PR
  revert X₀
  k_fill
  intro X₀
  obtain ⟨ahd, adp, afr, agd, aun⟩ := A
  dsimp only at hA hh hu hroom
  subst hA hh
  refine' call_keepC B F X₀ N T rfl hf hke ?k6 ?k7 ?k8 ?k9 ?kB ?kD ?_ ?c2 ?c3 ?c4
  case k6 => k_is
  case k7 => k_is
  case k8 => k_room
  case k9 => exact BindsTo.of_eq rfl
  case kB => exact rfl
  case kD => decide +kernel
  case c2 => exact rfl
  case c3 => exact rfl
  case c4 => exact rfl
  intro g' L' h' tk' cells' hgk F' N' Y' B' X' T' l1
  k_lt l1
  k_cells Y'
  (try simp only [List.cons_append, List.nil_append] at N')
  (try dsimp only)
  (try k_fold)
  (repeat' ((fail_if_success (with_reducible show wpAny _ _ (call (Value.ref 397) _) _ _ _)); (fail_if_success (with_reducible show wpAny _ _ (pyIter (Value.ref _)) _ _ _)); (fail_if_success (with_reducible show InvEndN _ _ _ _ _ _ _)); (fail_if_success (with_reducible show InvPostN _ _ _ _ _ _ _ _ _)); (first | (k_unfold; (try dsimp only)) | (k_end; wrow_close) | walk1 | (dsimp only; walk1) | (leave1; walk_say "STEP leave1"; try dsimp only) | fail "no step")))
  ((refine' wpAny_call (coef_core ?B ?F ?X ?T rfl rfl rfl rfl ?hu ?hroom (kst_newsOf ?N ?M) ?Ix ?Iy ?Iz ?la ?lb ?lz ?Sa ?Sb ?Sc ?_); (case B => k_asm); (case F => k_asm); (case X => k_asm); (case T => k_asm); (case hu => k_units); (case hroom => k_room); (case N => k_asm); (case M => (((repeat' (first | exact List.forall_mem_nil _ | refine' List.forall_mem_cons.mpr ⟨?_, ?_⟩)) <;> k_memK))); (case Ix => assumption); (case Iy => assumption); (case Iz => assumption); (case la => assumption); (case lb => assumption); (case lz => assumption); (case Sa => assumption); (case Sb => assumption); (case Sc => assumption); intro h' tk' vs' nl' l' st' g1' g2' I'; (rename Fr _ _ _ _ => F9); (rename News _ _ _ _ => N9); (have F' := Fr.stay F9 st'); (have N' := news_add F9 N9 st' g1' g2'); (have O' := allNe_of N9 g2'); (simp only [AllNe, and_true] at O'); clear F9 N9; (have L' := coefL_len256 I'); (try dsimp only)))
  (repeat' ((fail_if_success (with_reducible show wpAny _ _ (call (Value.ref 397) _) _ _ _)); (fail_if_success (with_reducible show wpAny _ _ (pyIter (Value.ref _)) _ _ _)); (fail_if_success (with_reducible show InvEndN _ _ _ _ _ _ _)); (fail_if_success (with_reducible show InvPostN _ _ _ _ _ _ _ _ _)); (first | (k_unfold; (try dsimp only)) | (k_end; wrow_close) | walk1 | (dsimp only; walk1) | (leave1; walk_say "STEP leave1"; try dsimp only) | fail "no step")))
  rename News _ _ _ _ => nE
  rename Fr _ _ _ _ => fE
  have hst := stays_of N hgk fE fun p hp => (kst_newsOf nE (by (((repeat' (first | exact List.forall_mem_nil _ | refine' List.forall_mem_cons.mpr ⟨?_, ?_⟩)) <;> k_memK))) p hp).1
  refine' hR _ _ _ _ _ _ _ _ _ hst ?a ?b ?c ?d ?e ?f ?g
  case a => exact (nE (_, _) (by k_memK)).1
  case b => exact (nE (_, _) (by k_memK)).1
  case c => exact (nE (_, _) (by k_memK)).1
  case d => exact fresh_of hgk (nE (_, _) (by k_memK)).2.2 (by ((intro hm; (simp only [List.map_cons, List.map_nil, List.mem_cons, List.not_mem_nil, or_false] at hm); (rcases hm with e | e | e | e | e | e | e | e | e <;> (subst e; omega)))))
  case e => exact fresh_of hgk (nE (_, _) (by k_memK)).2.2 (by ((intro hm; (simp only [List.map_cons, List.map_nil, List.mem_cons, List.not_mem_nil, or_false] at hm); (rcases hm with e | e | e | e | e | e | e | e | e <;> (subst e; omega)))))
  case f => exact fresh_of hgk (nE (_, _) (by k_memK)).2.2 (by ((intro hm; (simp only [List.map_cons, List.map_nil, List.mem_cons, List.not_mem_nil, or_false] at hm); (rcases hm with e | e | e | e | e | e | e | e | e <;> (subst e; omega)))))
  case g => assumption
abbrev addL (a b : List Int) : List Int := List.zipWith (fun x y => Int.fmod (x + y) 3329) a b
theorem addL_len {a b : List Int} {vs : List Value} (h : IntsAre vs (addL a b)) (la : a.length = 256) (lb : b.length = 256) : vs.length = 256 := by
  rw [h.length, List.length_zipWith, la, lb]
  rfl
local macro_rules | `(tactic| walk_at "exec Assign cons ListComp") => `(tactic| (k_here; k_dflt (refine zc_assign (_F₀ := by k_asm) (by rfl) (by with_unfolding_all rfl) (by with_unfolding_all rfl) (by decide) (by rfl) (by decide) (by rfl) (by rfl) (by decide) (by rfl) (by rfl) ?_)))
local macro_rules | `(tactic| walk_at "call type:zip") => `(tactic| (k_here; k_dflt (refine' zc_call (fun x y => Int.fmod (x + y) 3329) ?z1 ?z2 ?z3 ?z4 ?z5 ?z6 ?z7 ?z8 ?z9 ?za ?zb ?zc ?zd ?ze ?zf; (case z1 => rfl); (case z2 => k_asm); (case z3 => k_asm); (case z4 => k_memK); (case z5 => rfl); (case z6 => rfl); (case z7 => k_memK); (case z8 => rfl); (case z9 => rfl); (case za => assumption); (case zb => assumption); (case zc => omega); (case zd => (rw [PySem.sizeLine_eq]; omega)))))
theorem add_core {w : World} {A A₀ : Around} {s : Shared} {L : Addr} {h₀ base : Heap} {m mg mb : Str → Option Value} {loose : List Str} {mean : ExcName → Option Value}
    {env : Env} {outer : List Env} {R : Result → Shared → Prop} {x dx lx y dy ly rg dr zl : Addr} {vx vy zs : List Value} {nx ny : Nat} {t1 t2 t3 t4 t5 t6 t7 u1 u2 u3 u4 : Tok} {a b zz : List Int}
    (B : Below A₀ base outer h₀) (F : Fr h₀ L s.heap m) (X₀ : (Mine.hd.heap_1 w.params).In h₀) (T : Top Mine.view loose mean mg mb h₀) (hA : A.frames = some (env :: outer)) (hf : env.frame = some L) (hke : env.scope.kind = .function)
    (hh : A.handled = none) (hu : A.units + 40 < cLine) (hroom : A.depth + 20 < recursionLimit)
    (N : News h₀ L s.heap [(x, instObj 426 dx), (dx, polyD w u1 u2 rg lx), (lx, listOf vx.toArray nx), (y, instObj 426 dy), (dy, polyD w u3 u4 rg ly), (ly, listOf vy.toArray ny), (rg, instObj 282 dr), (dr, ringD w t1 t2 t3 t4 t5 t6 t7 zl), (zl, LCg.lst zs)])
    (Ix : IntsAre vx a) (Iy : IntsAre vy b) (Iz : IntsAre zs zz) (la : a.length = 256) (lb : b.length = 256) (lz : zz.length = 128) (Sa : AllSz 4000000 a) (Sb : AllSz 4000000 b) (Sc : AllSz 16 zz)
    (hR : ∀ (h' : Heap) (tk : Nat) (vs : List Value) (nl : Nat) (l' dx' x' : Addr) (v1 v2 : Tok), (∀ b o, s.heap.get? b = some o → h'.get? b = some o) → h'.get? x' = some (instObj 426 dx') → h'.get? dx' = some (polyD w v1 v2 rg l') → h'.get? l' = some (listOf vs.toArray nl) →
      s.heap.get? x' = none → s.heap.get? dx' = none → s.heap.get? l' = none → IntsAre vs (addL a b) → R (.ok (.ret (.ref x'))) { s with heap := h', toks := tk }) :
    codeAny (model PR w) A (.call (.ref 411) ⟨[.ref x, .ref y], []⟩) R s := by
  unfold PR
  revert X₀
  k_fill
  intro X₀
  obtain ⟨ahd, adp, afr, agd, aun⟩ := A
  dsimp only at hA hh hu hroom
  subst hA hh
  refine' call_keep B F X₀ N T rfl hf hke ?k6 ?k7 ?k8 ?k9 ?kB ?_ ?c2 ?c3 ?c4 ?c5
  case k6 => k_is
  case k7 => k_is
  case k8 => k_room
  case k9 => exact BindsTo.of_eq rfl
  case kB => exact locs rfl
  case c2 => exact rfl
  case c3 => exact rfl
  case c4 => exact rfl
  case c5 => decide
  intro g' L' h' hgk hLL F' N' B' X' T'
  (try dsimp only)
  (try k_fold)
  (repeat' ((fail_if_success (with_reducible show ZTurn _ _ _ _ _ _ _ _ _ _ _ _ _ _ _ _ _)); (fail_if_success (with_reducible show (∀ ys, IntsAre ys (List.zipWith _ _ _) → _))); (first | (k_unfold; (try dsimp only)) | (k_end; wrow_close) | walk1 | (dsimp only; walk1) | (leave1; walk_say "STEP leave1"; try dsimp only) | fail "no step")))
  case ze =>
    have hT := True.intro
    intro x9 y9 tx9 ty9 I9 C9 D9 j0 j1 j2 j3 oI9 oC9 p0 p1 p2 p3 ys9 m9 h9 tk9 E9 hx9 hy9 hC9 ha9 hb9 F9 N9 off9 ne9
    clear hx9 hy9
    (simp only [LCg.Off3, and_true] at off9)
    (repeat' ((first | (k_unfold; (try dsimp only)) | (k_end; wrow_close) | walk1 | (dsimp only; walk1) | (leave1; walk_say "STEP leave1"; try dsimp only) | fail "no step")))
    exact kcf_el rfl rfl rfl
  case zf =>
    intro ys9 iy9 D9 h9 tk9 F9 N9 o9
    (simp only [LCg.Off1, and_true] at o9)
    have ll9 := addL_len iy9 la lb
    (repeat' ((first | (k_unfold; (try dsimp only)) | (k_end; wrow_close) | walk1 | (dsimp only; walk1) | (leave1; walk_say "STEP leave1"; try dsimp only) | fail "no step")))
    rename News _ _ _ _ => nE
    rename Fr _ _ _ _ => fE
    have hst := stays_of N hgk fE fun p hp => (nE p (List.mem_cons_of_mem _ (List.mem_cons_of_mem _ (List.mem_cons_of_mem _ (List.mem_cons_of_mem _ hp))))).1
    refine' hR _ _ _ _ _ _ _ _ _ hst ?a ?b ?c ?d ?e ?f ?g
    case a => exact (nE (_, _) (by k_memK)).1
    case b => exact (nE (_, _) (by k_memK)).1
    case c => exact (nE (_, _) (by k_memK)).1
    case d => exact fresh_of hgk (nE (_, _) (by k_memK)).2.2 (by ((intro hm; (simp only [List.map_cons, List.map_nil, List.mem_cons, List.not_mem_nil, or_false] at hm); (rcases hm with e | e | e | e | e | e | e | e | e <;> (subst e; omega)))))
    case e => exact fresh_of hgk (nE (_, _) (by k_memK)).2.2 (by ((intro hm; (simp only [List.map_cons, List.map_nil, List.mem_cons, List.not_mem_nil, or_false] at hm); (rcases hm with e | e | e | e | e | e | e | e | e <;> (subst e; omega)))))
    case f => exact fresh_of hgk (nE (_, _) (by k_memK)).2.2 (by ((intro hm; (simp only [List.map_cons, List.map_nil, List.mem_cons, List.not_mem_nil, or_false] at hm); (rcases hm with e | e | e | e | e | e | e | e | e <;> (subst e; omega)))))
    case g => exact iy9
def halveL (l : List Int) : List Int := l.flatMap fun e => [Int.fdiv e 2, Int.fdiv e 2 + 128]
theorem halveL_snoc (l : List Int) (e : Int) : halveL (l ++ [e]) = halveL l ++ [Int.fdiv e 2, Int.fdiv e 2 + 128] := by simp [halveL]
theorem halveL_len (l : List Int) : (halveL l).length = 2 * l.length := by
  induction l with
  | nil => rfl
  | cons i r ih => simp only [halveL, List.flatMap_cons, List.length_append, List.length_cons, List.length_nil] at *; omega
def rootsE : List Int := halveL (halveL (halveL (halveL (halveL (halveL (halveL [128]))))))
def rootsL : List Int := rootsE.map pw17
theorem roots_nonneg : ∀ k ∈ halveL (halveL (halveL (halveL (halveL (halveL (halveL [128])))))), ¬ k < 0 := by decide +kernel
theorem fr_forget {h₀ h : Heap} {L : Addr} {m : Str → Option Value} {x : Str} {v : Value} (F : Fr h₀ L h m) (hv : m x = some v) : ∃ u : Str → Option Value, Fr h₀ L h (fun z => if z = x then some v else u z) := by
  refine ⟨m, ?_⟩
  have e : (fun z => if z = x then some v else m z) = m := by
    funext z
    by_cases q : z = x
    · subst q; simp [hv]
    · simp [q]
  rw [e]
  exact F
theorem news_two {h₀ h : Heap} {L : Addr} {a b : Addr × Obj} {rest : List (Addr × Obj)} (N : News h₀ L h (a :: b :: rest)) : News h₀ L h [a, b] := by
  intro p hp
  refine N p ?_
  simp only [List.mem_cons, List.not_mem_nil, or_false] at hp ⊢
  rcases hp with h | h <;> simp only [h, true_or, or_true]
local macro_rules | `(tactic| walk_at "call builtin:pow") => `(tactic| (refine pow17 (roots_nonneg _ (by assumption)) ?_; intro t' tk'))
theorem roots_core {w : World} {A A₀ : Around} {s : Shared} {L : Addr} {h₀ base : Heap} {m mg mb : Str → Option Value} {loose : List Str} {mean : ExcName → Option Value}
    {env : Env} {outer : List Env} {R : Result → Shared → Prop}
    (B : Below A₀ base outer h₀) (F : Fr h₀ L s.heap m) (X₀ : (Mine.hd.heap_1 w.params).In h₀) (T : Top Mine.view loose mean mg mb h₀) (hA : A.frames = some (env :: outer)) (hf : env.frame = some L) (hke : env.scope.kind = .function)
    (hh : A.handled = none) (hu : A.units + 40 < cLine) (hroom : A.depth + 20 < recursionLimit)
    (N : News h₀ L s.heap [])
    (hR : ∀ (h' : Heap) (tk : Nat) (vs : List Value) (l' : Addr), (∀ b o, s.heap.get? b = some o → h'.get? b = some o) → h'.get? l' = some (LCg.lst vs) →
      s.heap.get? l' = none → IntsAre vs rootsL → R (.ok (.ret (.ref l'))) { s with heap := h', toks := tk }) :
    codeAny (model PR w) A (.call (.ref 440) ⟨[], []⟩) R s := by
  unfold PR
  revert X₀
  k_fill
  intro X₀
  obtain ⟨ahd, adp, afr, agd, aun⟩ := A
  dsimp only at hA hh hu hroom
  subst hA hh
  refine' call_keep B F X₀ N T rfl hf hke ?k6 ?k7 ?k8 ?k9 ?kB ?_ ?c2 ?c3 ?c4 ?c5
  case k6 => k_is
  case k7 => k_is
  case k8 => k_room
  case k9 => exact BindsTo.of_eq rfl
  case kB => exact locs rfl
  case c2 => exact rfl
  case c3 => exact rfl
  case c4 => exact rfl
  case c5 => decide
  intro g' L' h' hgk hLL F' N' B' X' T'
  (try dsimp only)
  (try k_fold)
  (repeat' ((fail_if_success (with_reducible show LCg.CompRest _ _ _ _ _ _ _ _ _ _ _ _ _ _ _ _ _ _ _)); (fail_if_success (with_reducible show wpAny _ _ (pyIter (Value.ref _)) (fun it s₂ => LoopAtV _ _ _ _ _ (Str.ofString "e") _ _ _ it s₂) _ _)); (fail_if_success (with_reducible show InvEndN _ _ _ _ _ _ _)); (fail_if_success (with_reducible show InvPostN _ _ _ _ _ _ _ _ _)); (first | (k_unfold; (try dsimp only)) | (k_end; wrow_close) | walk1 | (dsimp only; walk1) | (leave1; walk_say "STEP leave1"; try dsimp only) | fail "no step")))
  (((rename News _ _ _ _ => lN); (rename Fr _ _ _ _ => lF); (have kMk := kstMark); (with_unfolding_all refine' kst_listL (σ := List Value × List Int × Nat) (fun c => (_, listOf c.1.toArray c.2.2) :: _) (fun c => [(Str.ofString "wide", Value.ref _)]) (fun c => IntsAre c.1 c.2.1) [Str.ofString "wide"] (fun pre c => c.2.1 = halveL pre) ([], [], 0) (by rfl) ?hl ?hi lF lN ?kf ?kk ?kp ?turn ?_); (case hl => (intro c; (try dsimp only); k_memK)); (case hi => (first | assumption | exact .cons _ _ .nil)); (case kf => exact .nil); (case kk => kst_all); (case kp => rfl); (case turn => ((clear lF lN); (rintro ⟨vs, out, n⟩ pre post e t u h tk own hEq hMem hoff hf hp F₁ N₁); (dsimp only at hf hp F₁ N₁); (simp only [List.map_cons, List.map_nil] at hoff); (simp only [List.cons_append, List.nil_append] at N₁); (have hlen := congrArg List.length hEq); (simp only [halveL_len, List.length_append, List.length_cons, List.length_nil] at hlen); (have hvl : vs.length = 2 * pre.length := by rw [hf.length, hp, halveL_len]); (try k_fold); ((repeat' ((fail_if_success (with_reducible show LCg.CompRest _ _ _ _ _ _ _ _ _ _ _ _ _ _ _ _ _ _ _)); (fail_if_success (with_reducible show wpAny _ _ (pyIter (Value.ref _)) (fun it s₂ => LoopAtV _ _ _ _ _ (Str.ofString "e") _ _ _ it s₂) _ _)); (fail_if_success (with_reducible show InvEndN _ _ _ _ _ _ _)); (fail_if_success (with_reducible show InvPostN _ _ _ _ _ _ _ _ _)); (first | (k_unfold; (try dsimp only)) | (k_end; wrow_close) | walk1 | (dsimp only; walk1) | (leave1; walk_say "STEP leave1"; try dsimp only) | fail "no step")))); (rename News _ _ _ _ => nE); (rename Fr _ _ _ _ => fE); (show InvEndN _ _ _ _ _ _ _); (refine' kst_end (_, out ++ [Int.fdiv e 2, Int.fdiv e 2 + 128], n + 1) fE nE ?hn ?ho ?ha ?hf ?hk ?hr ?hp); (case hn => first | kst_in | kst_inAny); (case ha => rfl); (case ho => first | (intro p hp; kst_mem) | kst_anyIn); (case hf => exact IntsAre.append hf (.cons _ _ (.cons _ _ .nil))); (case hk => kst_all); (case hr => (intro z h1 h2 h3; (have h4 := h2 _ (.head _)); (dsimp only at h4); (simp [h1, h4, kstB]))); (case hp => rw [hp, halveL_snoc]))); (clear lF lN); (rintro ⟨vs, out, n⟩ u h tk hf hp F₁ N₁); (dsimp only at hf hp F₁ N₁); (subst hp); (have N₂ := news_two N₁); (clear N₁); (obtain ⟨u', F₂⟩ := fr_forget (x := Str.ofString "wide") F₁ rfl); (clear F₁); (try dsimp only)))
  (repeat' ((fail_if_success (with_reducible show LCg.CompRest _ _ _ _ _ _ _ _ _ _ _ _ _ _ _ _ _ _ _)); (fail_if_success (with_reducible show wpAny _ _ (pyIter (Value.ref _)) (fun it s₂ => LoopAtV _ _ _ _ _ (Str.ofString "e") _ _ _ it s₂) _ _)); (fail_if_success (with_reducible show InvEndN _ _ _ _ _ _ _)); (fail_if_success (with_reducible show InvPostN _ _ _ _ _ _ _ _ _)); (first | (k_unfold; (try dsimp only)) | (k_end; wrow_close) | walk1 | (dsimp only; walk1) | (leave1; walk_say "STEP leave1"; try dsimp only) | fail "no step")))
  (((rename News _ _ _ _ => lN); (rename Fr _ _ _ _ => lF); (have kMk := kstMark); (with_unfolding_all refine' kst_listL (σ := List Value × List Int × Nat) (fun c => (_, listOf c.1.toArray c.2.2) :: _) (fun c => [(Str.ofString "wide", Value.ref _)]) (fun c => IntsAre c.1 c.2.1) [Str.ofString "wide"] (fun pre c => c.2.1 = halveL pre) ([], [], 0) (by rfl) ?hl ?hi lF lN ?kf ?kk ?kp ?turn ?_); (case hl => (intro c; (try dsimp only); k_memK)); (case hi => (first | assumption | exact .cons _ _ .nil)); (case kf => exact .nil); (case kk => kst_all); (case kp => rfl); (case turn => ((clear lF lN); (rintro ⟨vs, out, n⟩ pre post e t u h tk own hEq hMem hoff hf hp F₁ N₁); (dsimp only at hf hp F₁ N₁); (simp only [List.map_cons, List.map_nil] at hoff); (simp only [List.cons_append, List.nil_append] at N₁); (have hlen := congrArg List.length hEq); (simp only [halveL_len, List.length_append, List.length_cons, List.length_nil] at hlen); (have hvl : vs.length = 2 * pre.length := by rw [hf.length, hp, halveL_len]); (try k_fold); ((repeat' ((fail_if_success (with_reducible show LCg.CompRest _ _ _ _ _ _ _ _ _ _ _ _ _ _ _ _ _ _ _)); (fail_if_success (with_reducible show wpAny _ _ (pyIter (Value.ref _)) (fun it s₂ => LoopAtV _ _ _ _ _ (Str.ofString "e") _ _ _ it s₂) _ _)); (fail_if_success (with_reducible show InvEndN _ _ _ _ _ _ _)); (fail_if_success (with_reducible show InvPostN _ _ _ _ _ _ _ _ _)); (first | (k_unfold; (try dsimp only)) | (k_end; wrow_close) | walk1 | (dsimp only; walk1) | (leave1; walk_say "STEP leave1"; try dsimp only) | fail "no step")))); (rename News _ _ _ _ => nE); (rename Fr _ _ _ _ => fE); (show InvEndN _ _ _ _ _ _ _); (refine' kst_end (_, out ++ [Int.fdiv e 2, Int.fdiv e 2 + 128], n + 1) fE nE ?hn ?ho ?ha ?hf ?hk ?hr ?hp); (case hn => first | kst_in | kst_inAny); (case ha => rfl); (case ho => first | (intro p hp; kst_mem) | kst_anyIn); (case hf => exact IntsAre.append hf (.cons _ _ (.cons _ _ .nil))); (case hk => kst_all); (case hr => (intro z h1 h2 h3; (have h4 := h2 _ (.head _)); (dsimp only at h4); (simp [h1, h4, kstB]))); (case hp => rw [hp, halveL_snoc]))); (clear lF lN); (rintro ⟨vs, out, n⟩ u h tk hf hp F₁ N₁); (dsimp only at hf hp F₁ N₁); (subst hp); (have N₂ := news_two N₁); (clear N₁); (obtain ⟨u', F₂⟩ := fr_forget (x := Str.ofString "wide") F₁ rfl); (clear F₁); (try dsimp only)))
  (repeat' ((fail_if_success (with_reducible show LCg.CompRest _ _ _ _ _ _ _ _ _ _ _ _ _ _ _ _ _ _ _)); (fail_if_success (with_reducible show wpAny _ _ (pyIter (Value.ref _)) (fun it s₂ => LoopAtV _ _ _ _ _ (Str.ofString "e") _ _ _ it s₂) _ _)); (fail_if_success (with_reducible show InvEndN _ _ _ _ _ _ _)); (fail_if_success (with_reducible show InvPostN _ _ _ _ _ _ _ _ _)); (first | (k_unfold; (try dsimp only)) | (k_end; wrow_close) | walk1 | (dsimp only; walk1) | (leave1; walk_say "STEP leave1"; try dsimp only) | fail "no step")))
  (((rename News _ _ _ _ => lN); (rename Fr _ _ _ _ => lF); (have kMk := kstMark); (with_unfolding_all refine' kst_listL (σ := List Value × List Int × Nat) (fun c => (_, listOf c.1.toArray c.2.2) :: _) (fun c => [(Str.ofString "wide", Value.ref _)]) (fun c => IntsAre c.1 c.2.1) [Str.ofString "wide"] (fun pre c => c.2.1 = halveL pre) ([], [], 0) (by rfl) ?hl ?hi lF lN ?kf ?kk ?kp ?turn ?_); (case hl => (intro c; (try dsimp only); k_memK)); (case hi => (first | assumption | exact .cons _ _ .nil)); (case kf => exact .nil); (case kk => kst_all); (case kp => rfl); (case turn => ((clear lF lN); (rintro ⟨vs, out, n⟩ pre post e t u h tk own hEq hMem hoff hf hp F₁ N₁); (dsimp only at hf hp F₁ N₁); (simp only [List.map_cons, List.map_nil] at hoff); (simp only [List.cons_append, List.nil_append] at N₁); (have hlen := congrArg List.length hEq); (simp only [halveL_len, List.length_append, List.length_cons, List.length_nil] at hlen); (have hvl : vs.length = 2 * pre.length := by rw [hf.length, hp, halveL_len]); (try k_fold); ((repeat' ((fail_if_success (with_reducible show LCg.CompRest _ _ _ _ _ _ _ _ _ _ _ _ _ _ _ _ _ _ _)); (fail_if_success (with_reducible show wpAny _ _ (pyIter (Value.ref _)) (fun it s₂ => LoopAtV _ _ _ _ _ (Str.ofString "e") _ _ _ it s₂) _ _)); (fail_if_success (with_reducible show InvEndN _ _ _ _ _ _ _)); (fail_if_success (with_reducible show InvPostN _ _ _ _ _ _ _ _ _)); (first | (k_unfold; (try dsimp only)) | (k_end; wrow_close) | walk1 | (dsimp only; walk1) | (leave1; walk_say "STEP leave1"; try dsimp only) | fail "no step")))); (rename News _ _ _ _ => nE); (rename Fr _ _ _ _ => fE); (show InvEndN _ _ _ _ _ _ _); (refine' kst_end (_, out ++ [Int.fdiv e 2, Int.fdiv e 2 + 128], n + 1) fE nE ?hn ?ho ?ha ?hf ?hk ?hr ?hp); (case hn => first | kst_in | kst_inAny); (case ha => rfl); (case ho => first | (intro p hp; kst_mem) | kst_anyIn); (case hf => exact IntsAre.append hf (.cons _ _ (.cons _ _ .nil))); (case hk => kst_all); (case hr => (intro z h1 h2 h3; (have h4 := h2 _ (.head _)); (dsimp only at h4); (simp [h1, h4, kstB]))); (case hp => rw [hp, halveL_snoc]))); (clear lF lN); (rintro ⟨vs, out, n⟩ u h tk hf hp F₁ N₁); (dsimp only at hf hp F₁ N₁); (subst hp); (have N₂ := news_two N₁); (clear N₁); (obtain ⟨u', F₂⟩ := fr_forget (x := Str.ofString "wide") F₁ rfl); (clear F₁); (try dsimp only)))
  (repeat' ((fail_if_success (with_reducible show LCg.CompRest _ _ _ _ _ _ _ _ _ _ _ _ _ _ _ _ _ _ _)); (fail_if_success (with_reducible show wpAny _ _ (pyIter (Value.ref _)) (fun it s₂ => LoopAtV _ _ _ _ _ (Str.ofString "e") _ _ _ it s₂) _ _)); (fail_if_success (with_reducible show InvEndN _ _ _ _ _ _ _)); (fail_if_success (with_reducible show InvPostN _ _ _ _ _ _ _ _ _)); (first | (k_unfold; (try dsimp only)) | (k_end; wrow_close) | walk1 | (dsimp only; walk1) | (leave1; walk_say "STEP leave1"; try dsimp only) | fail "no step")))
  (((rename News _ _ _ _ => lN); (rename Fr _ _ _ _ => lF); (have kMk := kstMark); (with_unfolding_all refine' kst_listL (σ := List Value × List Int × Nat) (fun c => (_, listOf c.1.toArray c.2.2) :: _) (fun c => [(Str.ofString "wide", Value.ref _)]) (fun c => IntsAre c.1 c.2.1) [Str.ofString "wide"] (fun pre c => c.2.1 = halveL pre) ([], [], 0) (by rfl) ?hl ?hi lF lN ?kf ?kk ?kp ?turn ?_); (case hl => (intro c; (try dsimp only); k_memK)); (case hi => (first | assumption | exact .cons _ _ .nil)); (case kf => exact .nil); (case kk => kst_all); (case kp => rfl); (case turn => ((clear lF lN); (rintro ⟨vs, out, n⟩ pre post e t u h tk own hEq hMem hoff hf hp F₁ N₁); (dsimp only at hf hp F₁ N₁); (simp only [List.map_cons, List.map_nil] at hoff); (simp only [List.cons_append, List.nil_append] at N₁); (have hlen := congrArg List.length hEq); (simp only [halveL_len, List.length_append, List.length_cons, List.length_nil] at hlen); (have hvl : vs.length = 2 * pre.length := by rw [hf.length, hp, halveL_len]); (try k_fold); ((repeat' ((fail_if_success (with_reducible show LCg.CompRest _ _ _ _ _ _ _ _ _ _ _ _ _ _ _ _ _ _ _)); (fail_if_success (with_reducible show wpAny _ _ (pyIter (Value.ref _)) (fun it s₂ => LoopAtV _ _ _ _ _ (Str.ofString "e") _ _ _ it s₂) _ _)); (fail_if_success (with_reducible show InvEndN _ _ _ _ _ _ _)); (fail_if_success (with_reducible show InvPostN _ _ _ _ _ _ _ _ _)); (first | (k_unfold; (try dsimp only)) | (k_end; wrow_close) | walk1 | (dsimp only; walk1) | (leave1; walk_say "STEP leave1"; try dsimp only) | fail "no step")))); (rename News _ _ _ _ => nE); (rename Fr _ _ _ _ => fE); (show InvEndN _ _ _ _ _ _ _); (refine' kst_end (_, out ++ [Int.fdiv e 2, Int.fdiv e 2 + 128], n + 1) fE nE ?hn ?ho ?ha ?hf ?hk ?hr ?hp); (case hn => first | kst_in | kst_inAny); (case ha => rfl); (case ho => first | (intro p hp; kst_mem) | kst_anyIn); (case hf => exact IntsAre.append hf (.cons _ _ (.cons _ _ .nil))); (case hk => kst_all); (case hr => (intro z h1 h2 h3; (have h4 := h2 _ (.head _)); (dsimp only at h4); (simp [h1, h4, kstB]))); (case hp => rw [hp, halveL_snoc]))); (clear lF lN); (rintro ⟨vs, out, n⟩ u h tk hf hp F₁ N₁); (dsimp only at hf hp F₁ N₁); (subst hp); (have N₂ := news_two N₁); (clear N₁); (obtain ⟨u', F₂⟩ := fr_forget (x := Str.ofString "wide") F₁ rfl); (clear F₁); (try dsimp only)))
  (repeat' ((fail_if_success (with_reducible show LCg.CompRest _ _ _ _ _ _ _ _ _ _ _ _ _ _ _ _ _ _ _)); (fail_if_success (with_reducible show wpAny _ _ (pyIter (Value.ref _)) (fun it s₂ => LoopAtV _ _ _ _ _ (Str.ofString "e") _ _ _ it s₂) _ _)); (fail_if_success (with_reducible show InvEndN _ _ _ _ _ _ _)); (fail_if_success (with_reducible show InvPostN _ _ _ _ _ _ _ _ _)); (first | (k_unfold; (try dsimp only)) | (k_end; wrow_close) | walk1 | (dsimp only; walk1) | (leave1; walk_say "STEP leave1"; try dsimp only) | fail "no step")))
  (((rename News _ _ _ _ => lN); (rename Fr _ _ _ _ => lF); (have kMk := kstMark); (with_unfolding_all refine' kst_listL (σ := List Value × List Int × Nat) (fun c => (_, listOf c.1.toArray c.2.2) :: _) (fun c => [(Str.ofString "wide", Value.ref _)]) (fun c => IntsAre c.1 c.2.1) [Str.ofString "wide"] (fun pre c => c.2.1 = halveL pre) ([], [], 0) (by rfl) ?hl ?hi lF lN ?kf ?kk ?kp ?turn ?_); (case hl => (intro c; (try dsimp only); k_memK)); (case hi => (first | assumption | exact .cons _ _ .nil)); (case kf => exact .nil); (case kk => kst_all); (case kp => rfl); (case turn => ((clear lF lN); (rintro ⟨vs, out, n⟩ pre post e t u h tk own hEq hMem hoff hf hp F₁ N₁); (dsimp only at hf hp F₁ N₁); (simp only [List.map_cons, List.map_nil] at hoff); (simp only [List.cons_append, List.nil_append] at N₁); (have hlen := congrArg List.length hEq); (simp only [halveL_len, List.length_append, List.length_cons, List.length_nil] at hlen); (have hvl : vs.length = 2 * pre.length := by rw [hf.length, hp, halveL_len]); (try k_fold); ((repeat' ((fail_if_success (with_reducible show LCg.CompRest _ _ _ _ _ _ _ _ _ _ _ _ _ _ _ _ _ _ _)); (fail_if_success (with_reducible show wpAny _ _ (pyIter (Value.ref _)) (fun it s₂ => LoopAtV _ _ _ _ _ (Str.ofString "e") _ _ _ it s₂) _ _)); (fail_if_success (with_reducible show InvEndN _ _ _ _ _ _ _)); (fail_if_success (with_reducible show InvPostN _ _ _ _ _ _ _ _ _)); (first | (k_unfold; (try dsimp only)) | (k_end; wrow_close) | walk1 | (dsimp only; walk1) | (leave1; walk_say "STEP leave1"; try dsimp only) | fail "no step")))); (rename News _ _ _ _ => nE); (rename Fr _ _ _ _ => fE); (show InvEndN _ _ _ _ _ _ _); (refine' kst_end (_, out ++ [Int.fdiv e 2, Int.fdiv e 2 + 128], n + 1) fE nE ?hn ?ho ?ha ?hf ?hk ?hr ?hp); (case hn => first | kst_in | kst_inAny); (case ha => rfl); (case ho => first | (intro p hp; kst_mem) | kst_anyIn); (case hf => exact IntsAre.append hf (.cons _ _ (.cons _ _ .nil))); (case hk => kst_all); (case hr => (intro z h1 h2 h3; (have h4 := h2 _ (.head _)); (dsimp only at h4); (simp [h1, h4, kstB]))); (case hp => rw [hp, halveL_snoc]))); (clear lF lN); (rintro ⟨vs, out, n⟩ u h tk hf hp F₁ N₁); (dsimp only at hf hp F₁ N₁); (subst hp); (have N₂ := news_two N₁); (clear N₁); (obtain ⟨u', F₂⟩ := fr_forget (x := Str.ofString "wide") F₁ rfl); (clear F₁); (try dsimp only)))
  (repeat' ((fail_if_success (with_reducible show LCg.CompRest _ _ _ _ _ _ _ _ _ _ _ _ _ _ _ _ _ _ _)); (fail_if_success (with_reducible show wpAny _ _ (pyIter (Value.ref _)) (fun it s₂ => LoopAtV _ _ _ _ _ (Str.ofString "e") _ _ _ it s₂) _ _)); (fail_if_success (with_reducible show InvEndN _ _ _ _ _ _ _)); (fail_if_success (with_reducible show InvPostN _ _ _ _ _ _ _ _ _)); (first | (k_unfold; (try dsimp only)) | (k_end; wrow_close) | walk1 | (dsimp only; walk1) | (leave1; walk_say "STEP leave1"; try dsimp only) | fail "no step")))
  (((rename News _ _ _ _ => lN); (rename Fr _ _ _ _ => lF); (have kMk := kstMark); (with_unfolding_all refine' kst_listL (σ := List Value × List Int × Nat) (fun c => (_, listOf c.1.toArray c.2.2) :: _) (fun c => [(Str.ofString "wide", Value.ref _)]) (fun c => IntsAre c.1 c.2.1) [Str.ofString "wide"] (fun pre c => c.2.1 = halveL pre) ([], [], 0) (by rfl) ?hl ?hi lF lN ?kf ?kk ?kp ?turn ?_); (case hl => (intro c; (try dsimp only); k_memK)); (case hi => (first | assumption | exact .cons _ _ .nil)); (case kf => exact .nil); (case kk => kst_all); (case kp => rfl); (case turn => ((clear lF lN); (rintro ⟨vs, out, n⟩ pre post e t u h tk own hEq hMem hoff hf hp F₁ N₁); (dsimp only at hf hp F₁ N₁); (simp only [List.map_cons, List.map_nil] at hoff); (simp only [List.cons_append, List.nil_append] at N₁); (have hlen := congrArg List.length hEq); (simp only [halveL_len, List.length_append, List.length_cons, List.length_nil] at hlen); (have hvl : vs.length = 2 * pre.length := by rw [hf.length, hp, halveL_len]); (try k_fold); ((repeat' ((fail_if_success (with_reducible show LCg.CompRest _ _ _ _ _ _ _ _ _ _ _ _ _ _ _ _ _ _ _)); (fail_if_success (with_reducible show wpAny _ _ (pyIter (Value.ref _)) (fun it s₂ => LoopAtV _ _ _ _ _ (Str.ofString "e") _ _ _ it s₂) _ _)); (fail_if_success (with_reducible show InvEndN _ _ _ _ _ _ _)); (fail_if_success (with_reducible show InvPostN _ _ _ _ _ _ _ _ _)); (first | (k_unfold; (try dsimp only)) | (k_end; wrow_close) | walk1 | (dsimp only; walk1) | (leave1; walk_say "STEP leave1"; try dsimp only) | fail "no step")))); (rename News _ _ _ _ => nE); (rename Fr _ _ _ _ => fE); (show InvEndN _ _ _ _ _ _ _); (refine' kst_end (_, out ++ [Int.fdiv e 2, Int.fdiv e 2 + 128], n + 1) fE nE ?hn ?ho ?ha ?hf ?hk ?hr ?hp); (case hn => first | kst_in | kst_inAny); (case ha => rfl); (case ho => first | (intro p hp; kst_mem) | kst_anyIn); (case hf => exact IntsAre.append hf (.cons _ _ (.cons _ _ .nil))); (case hk => kst_all); (case hr => (intro z h1 h2 h3; (have h4 := h2 _ (.head _)); (dsimp only at h4); (simp [h1, h4, kstB]))); (case hp => rw [hp, halveL_snoc]))); (clear lF lN); (rintro ⟨vs, out, n⟩ u h tk hf hp F₁ N₁); (dsimp only at hf hp F₁ N₁); (subst hp); (have N₂ := news_two N₁); (clear N₁); (obtain ⟨u', F₂⟩ := fr_forget (x := Str.ofString "wide") F₁ rfl); (clear F₁); (try dsimp only)))
  (repeat' ((fail_if_success (with_reducible show LCg.CompRest _ _ _ _ _ _ _ _ _ _ _ _ _ _ _ _ _ _ _)); (fail_if_success (with_reducible show wpAny _ _ (pyIter (Value.ref _)) (fun it s₂ => LoopAtV _ _ _ _ _ (Str.ofString "e") _ _ _ it s₂) _ _)); (fail_if_success (with_reducible show InvEndN _ _ _ _ _ _ _)); (fail_if_success (with_reducible show InvPostN _ _ _ _ _ _ _ _ _)); (first | (k_unfold; (try dsimp only)) | (k_end; wrow_close) | walk1 | (dsimp only; walk1) | (leave1; walk_say "STEP leave1"; try dsimp only) | fail "no step")))
  (((rename News _ _ _ _ => lN); (rename Fr _ _ _ _ => lF); (have kMk := kstMark); (with_unfolding_all refine' kst_listL (σ := List Value × List Int × Nat) (fun c => (_, listOf c.1.toArray c.2.2) :: _) (fun c => [(Str.ofString "wide", Value.ref _)]) (fun c => IntsAre c.1 c.2.1) [Str.ofString "wide"] (fun pre c => c.2.1 = halveL pre) ([], [], 0) (by rfl) ?hl ?hi lF lN ?kf ?kk ?kp ?turn ?_); (case hl => (intro c; (try dsimp only); k_memK)); (case hi => (first | assumption | exact .cons _ _ .nil)); (case kf => exact .nil); (case kk => kst_all); (case kp => rfl); (case turn => ((clear lF lN); (rintro ⟨vs, out, n⟩ pre post e t u h tk own hEq hMem hoff hf hp F₁ N₁); (dsimp only at hf hp F₁ N₁); (simp only [List.map_cons, List.map_nil] at hoff); (simp only [List.cons_append, List.nil_append] at N₁); (have hlen := congrArg List.length hEq); (simp only [halveL_len, List.length_append, List.length_cons, List.length_nil] at hlen); (have hvl : vs.length = 2 * pre.length := by rw [hf.length, hp, halveL_len]); (try k_fold); ((repeat' ((fail_if_success (with_reducible show LCg.CompRest _ _ _ _ _ _ _ _ _ _ _ _ _ _ _ _ _ _ _)); (fail_if_success (with_reducible show wpAny _ _ (pyIter (Value.ref _)) (fun it s₂ => LoopAtV _ _ _ _ _ (Str.ofString "e") _ _ _ it s₂) _ _)); (fail_if_success (with_reducible show InvEndN _ _ _ _ _ _ _)); (fail_if_success (with_reducible show InvPostN _ _ _ _ _ _ _ _ _)); (first | (k_unfold; (try dsimp only)) | (k_end; wrow_close) | walk1 | (dsimp only; walk1) | (leave1; walk_say "STEP leave1"; try dsimp only) | fail "no step")))); (rename News _ _ _ _ => nE); (rename Fr _ _ _ _ => fE); (show InvEndN _ _ _ _ _ _ _); (refine' kst_end (_, out ++ [Int.fdiv e 2, Int.fdiv e 2 + 128], n + 1) fE nE ?hn ?ho ?ha ?hf ?hk ?hr ?hp); (case hn => first | kst_in | kst_inAny); (case ha => rfl); (case ho => first | (intro p hp; kst_mem) | kst_anyIn); (case hf => exact IntsAre.append hf (.cons _ _ (.cons _ _ .nil))); (case hk => kst_all); (case hr => (intro z h1 h2 h3; (have h4 := h2 _ (.head _)); (dsimp only at h4); (simp [h1, h4, kstB]))); (case hp => rw [hp, halveL_snoc]))); (clear lF lN); (rintro ⟨vs, out, n⟩ u h tk hf hp F₁ N₁); (dsimp only at hf hp F₁ N₁); (subst hp); (have N₂ := news_two N₁); (clear N₁); (obtain ⟨u', F₂⟩ := fr_forget (x := Str.ofString "wide") F₁ rfl); (clear F₁); (try dsimp only)))
  (repeat' ((fail_if_success (with_reducible show LCg.CompRest _ _ _ _ _ _ _ _ _ _ _ _ _ _ _ _ _ _ _)); (fail_if_success (with_reducible show wpAny _ _ (pyIter (Value.ref _)) (fun it s₂ => LoopAtV _ _ _ _ _ (Str.ofString "e") _ _ _ it s₂) _ _)); (fail_if_success (with_reducible show InvEndN _ _ _ _ _ _ _)); (fail_if_success (with_reducible show InvPostN _ _ _ _ _ _ _ _ _)); (first | (k_unfold; (try dsimp only)) | (k_end; wrow_close) | walk1 | (dsimp only; walk1) | (leave1; walk_say "STEP leave1"; try dsimp only) | fail "no step")))
  rename News _ _ _ _ => nE
  rename Fr _ _ _ _ => fE
  have hst := stays_of N hgk fE fun p hp => (nomatch hp)
  refine' hR _ _ _ _ hst ?c ?f ?g
  case c => exact (nE (_, LCg.lst _) (by k_memK)).1
  case f => exact fresh_of hgk (nE (_, LCg.lst _) (by k_memK)).2.2 (fun hm => nomatch hm)
  case g => assumption
@[irreducible] def drawF (ns : List Int) (k : Int) : Int := if k < (ns.length : Int) then ns.getD k.toNat 0 else 62 + 11 * k + 23 * k * k
theorem drawF_in {ns : List Int} {k : Int} (h : k < (ns.length : Int)) : drawF ns k = ns.getD k.toNat 0 := by unfold drawF; rw [if_pos h]
theorem drawF_out {ns : List Int} {k : Int} (h : ¬ k < (ns.length : Int)) : drawF ns k = 62 + 11 * k + 23 * k * k := by unfold drawF; rw [if_neg h]
theorem draw_core {w : World} {A A₀ : Around} {s : Shared} {L : Addr} {h₀ base : Heap} {m mg mb : Str → Option Value} {loose : List Str} {mean : ExcName → Option Value}
    {env : Env} {outer : List Env} {R : Result → Shared → Prop} {l : Addr} {vs : List Value} {ns : List Int} {k : Int} {t : Tok}
    (B : Below A₀ base outer h₀) (F : Fr h₀ L s.heap m) (X₀ : (Mine.hd.heap_1 w.params).In h₀) (T : Top Mine.view loose mean mg mb h₀) (hA : A.frames = some (env :: outer)) (hf : env.frame = some L) (hke : env.scope.kind = .function)
    (hh : A.handled = none) (hu : A.units + 40 < cLine) (hroom : A.depth + 20 < recursionLimit)
    (N : News h₀ L s.heap []) (hl : h₀.IsList l vs.toArray) (hI : IntsAre vs ns) (hn : ns.length ≤ 63) (hk0 : 0 ≤ k) (hk1 : k ≤ 256)
    (hR : ∀ (h' : Heap) (tk : Nat) (t' : Tok), (∀ b o, s.heap.get? b = some o → h'.get? b = some o) → R (.ok (.ret (.int (drawF ns k) t'))) { s with heap := h', toks := tk }) :
    codeAny (model PR w) A (.call (.ref 435) ⟨[.ref l, .int k t], []⟩) R s := by
  unfold PR
  revert X₀
  k_fill
  intro X₀
  obtain ⟨ahd, adp, afr, agd, aun⟩ := A
  dsimp only at hA hh hu hroom
  subst hA hh
  refine' call_keep B F X₀ N T rfl hf hke ?k6 ?k7 ?k8 ?k9 ?kB ?_ ?c2 ?c3 ?c4 ?c5
  case k6 => k_is
  case k7 => k_is
  case k8 => k_room
  case k9 => exact BindsTo.of_eq rfl
  case kB => exact locs rfl
  case c2 => exact rfl
  case c3 => exact rfl
  case c4 => exact rfl
  case c5 => decide
  intro g' L' h' hgk hLL F' N' B' X' T'
  have hst : h₀.StaysIn g' := fun b o e => hgk b o (F.keep b o e) (fun hm => nomatch hm)
  have hl' := stays_list hst hl
  (try dsimp only)
  (try k_fold)
  (repeat' ((first | (k_unfold; (try dsimp only)) | (k_end; wrow_close) | walk1 | (dsimp only; walk1) | (leave1; walk_say "STEP leave1"; try dsimp only) | fail "no step")))
  · rename Fr _ _ _ _ => fE
    have hst' := stays_of N hgk fE fun p hp => (nomatch hp)
    rw [drawF_in (ns := ns) (k := k) (by omega)] at hR
    exact hR _ _ _ hst'
  · rename Fr _ _ _ _ => fE
    have hst' := stays_of N hgk fE fun p hp => (nomatch hp)
    rw [drawF_out (ns := ns) (k := k) (by omega)] at hR
    exact hR _ _ _ hst'
end Mine
end
section
open PySem PySem.W PyProof.Rows PySem.Calls
namespace Mine
theorem sz_small {x : Int} (h1 : -(2 ^ 64) < x) (h2 : x < 2 ^ 64) : Sz 4000000 x := by
  have h : Builtin.Int.intBits x ≤ 64 := intBits_le_iff.mpr (by omega)
  exact ⟨Nat.le_trans h (by decide)⟩
theorem draw_sz {ns : List Int} (hL : PyData.layable0 (.list (ns.map .int)) = true) {k : Int} (h0 : 0 ≤ k) (h1 : k ≤ 256) : Sz 4000000 (drawF ns k) := by
  by_cases h : k < (ns.length : Int)
  · rw [drawF_in h]
    have hk : k.toNat < ns.length := by omega
    have e : ns.getD k.toNat 0 = ns[k.toNat] := by simp [List.getD, hk]
    rw [e]
    exact ⟨Nat.le_trans (intBits_le_of_item (List.getElem_mem hk) hL) (by decide)⟩
  · rw [drawF_out h]
    obtain ⟨n, rfl⟩ := Int.eq_ofNat_of_zero_le h0
    have hn : n ≤ 256 := by omega
    have hm : 23 * (n : Int) * (n : Int) ≤ 23 * 256 * 256 := by
      have : n * n ≤ 256 * 256 := Nat.mul_le_mul hn hn
      have h3 : ((n * n : Nat) : Int) ≤ ((256 * 256 : Nat) : Int) := Int.ofNat_le.mpr this
      rw [Int.mul_assoc]
      have h4 : (n : Int) * (n : Int) = ((n * n : Nat) : Int) := by simp
      rw [h4]; omega
    have hp : 0 ≤ 23 * (n : Int) * (n : Int) := Int.mul_nonneg (by omega) (by omega)
    exact sz_small (by omega) (by omega)
def rowL (ns : List Int) (M : Int) : List Int := (rangeKs 0 (Int.toNat (M - 0))).map (fun k' => drawF ns (1 + k')) ++ (List.replicate (Int.toNat (256 - M)) [(0 : Int)]).flatten
theorem flat_rep (n : Nat) : (List.replicate n [(0 : Int)]).flatten = List.replicate n 0 := by
  induction n with
  | zero => rfl
  | succ n ih => simp [List.replicate_succ, ih]
theorem row_len {ns : List Int} {M : Int} (h0 : 0 ≤ M) (h1 : M ≤ 256) : (rowL ns M).length = 256 := by
  unfold rowL
  rw [flat_rep, List.length_append, List.length_map, rangeKs_length, List.length_replicate]
  omega
theorem allSz_of_mem {n : Nat} {l : List Int} (h0 : Sz n 0) (h : ∀ x ∈ l, Sz n x) : AllSz n l := by
  intro j
  by_cases hj : j < l.length
  · have e : l.getD j 0 = l[j] := by simp [List.getD, hj]
    rw [e]; exact h _ (List.getElem_mem hj)
  · have e : l.getD j 0 = 0 := by simp [List.getD, hj]
    rw [e]; exact h0
theorem row_sz {ns : List Int} {M : Int} (hL : PyData.layable0 (.list (ns.map .int)) = true) (h0 : 0 ≤ M) (h1 : M ≤ 256) : AllSz 4000000 (rowL ns M) := by
  have hz : Sz 4000000 0 := sz_small (by decide) (by decide)
  refine allSz_of_mem hz fun x hx => ?_
  unfold rowL at hx
  rw [flat_rep] at hx
  rcases List.mem_append.mp hx with hx | hx
  · obtain ⟨k, hk, rfl⟩ := List.mem_map.mp hx
    have hr := mem_rangeKs hk
    exact draw_sz hL (by omega) (by omega)
  · rw [List.eq_of_mem_replicate hx]; exact hz
def zetaL : List Int := (rangeKs 0 128).map fun k => pw17 (brF k)
theorem zetaL_len : zetaL.length = 128 := by unfold zetaL; rw [List.length_map, rangeKs_length]
theorem rootsL_len : rootsL.length = 128 := by unfold rootsL rootsE; rw [List.length_map]; simp only [halveL_len, List.length_cons, List.length_nil]
theorem foldl_lt {m b e : Nat} (hm : 0 < m) : ∀ (l : List Nat) (p : Nat), p < m → l.foldl (fun p i => if e.testBit i then p * p % m * b % m else p * p % m) p < m
  | [], _, h => h
  | i :: r, p, _ => by
    rw [List.foldl_cons]
    refine foldl_lt hm r _ ?_
    split <;> exact Nat.mod_lt _ hm
theorem pw17_small (e : Int) : 0 ≤ pw17 e ∧ pw17 e < 65536 := by
  unfold pw17
  have h : Builtin.powMod 17 e.natAbs 3329 < 3329 := foldl_lt (by decide) _ _ (by decide)
  omega
theorem sz16 {x : Int} (h1 : 0 ≤ x) (h2 : x < 65536) : Sz 16 x := ⟨intBits_le_iff.mpr (by omega)⟩
theorem zetaL_sz : AllSz 16 zetaL := by
  refine allSz_of_mem (sz16 (by decide) (by decide)) fun x hx => ?_
  obtain ⟨k, hk, rfl⟩ := List.mem_map.mp hx
  exact sz16 (pw17_small _).1 (pw17_small _).2
theorem rootsL_sz : AllSz 16 rootsL := by
  refine allSz_of_mem (sz16 (by decide) (by decide)) fun x hx => ?_
  obtain ⟨k, hk, rfl⟩ := List.mem_map.mp hx
  exact sz16 (pw17_small _).1 (pw17_small _).2
def raisedT (row : List Int) (i : Int) : List Int := [Int.fmod (row.getD (2 * i).toNat 0) 3329, Int.fmod (-(row.getD (2 * i + 1).toNat 0)) 3329]
def twiceT (row : List Int) (i : Int) : List Int := [Int.fmod (2 * row.getD (2 * i).toNat 0) 3329, 0]
def normsT (row rts : List Int) (i : Int) : List Int := [Int.fmod (row.getD (2 * i).toNat 0 * row.getD (2 * i).toNat 0 - rts.getD i.toNat 0 * row.getD (2 * i + 1).toNat 0 * row.getD (2 * i + 1).toNat 0) 3329, 0]
def mapL (f : Int → List Int) (is : List Int) : List Int := is.flatMap f
theorem mapL_snoc (f : Int → List Int) (is : List Int) (i : Int) : mapL f (is ++ [i]) = mapL f is ++ f i := by simp [mapL]
theorem mapL_len2 (f : Int → List Int) (hf : ∀ i, (f i).length = 2) (is : List Int) : (mapL f is).length = 2 * is.length := by
  induction is with
  | nil => rfl
  | cons i r ih => simp only [mapL, List.flatMap_cons, List.length_append, hf, List.length_cons] at *; omega
end Mine
end
section
open PySem PySem.W PyProof.Rows PySem.Calls
namespace Mine
theorem fmod_sz (x : Int) : Sz 4000000 (Int.fmod x 3329) := sz_small (by have := Int.fmod_nonneg_of_pos x (b := 3329) (by decide); omega) (by have := Int.fmod_lt_of_pos x (b := 3329) (by decide); omega)
def Red (c : List Int) : Prop := ∀ x ∈ c, 0 ≤ x ∧ x < 3329
theorem coefL_red (zz a b is : List Int) : Red (coefL zz a b is) := by
  intro x hx
  obtain ⟨i, _, hi⟩ := List.mem_flatMap.mp hx
  have h (y : Int) : 0 ≤ Int.fmod y 3329 ∧ Int.fmod y 3329 < 3329 := ⟨Int.fmod_nonneg_of_pos y (by decide), Int.fmod_lt_of_pos y (by decide)⟩
  simp only [quad, List.mem_cons, List.not_mem_nil, or_false] at hi
  rcases hi with rfl | rfl | rfl | rfl <;> exact h _
theorem coefL_sz (zz a b is : List Int) : AllSz 4000000 (coefL zz a b is) := by
  refine allSz_of_mem (sz_small (by decide) (by decide)) fun x hx => ?_
  have h := coefL_red zz a b is x hx
  exact sz_small (by omega) (by omega)
def rt (j : Nat) : Int := if j % 2 = 0 then zetaL.getD (64 + j / 2) 0 else -(zetaL.getD (64 + j / 2) 0)
def pmul (r : Int) (x y : Int × Int) : Int × Int := (x.1 * y.1 + r * x.2 * y.2, x.2 * y.1 + x.1 * y.2)
def ppow (r : Int) (x : Int × Int) : Nat → Int × Int
  | 0 => (1, 0)
  | n + 1 => pmul r (ppow r x n) x
def pairAt (c : List Int) (j : Nat) : Int × Int := (c.getD (2 * j) 0, c.getD (2 * j + 1) 0)
def IsPow (row c : List Int) (n : Nat) : Prop := ∀ j : Nat, j < 128 → (3329 : Int) ∣ ((pairAt c j).1 - (ppow (rt j) (pairAt row j) n).1) ∧ (3329 : Int) ∣ ((pairAt c j).2 - (ppow (rt j) (pairAt row j) n).2)
theorem isPow_one (row : List Int) : IsPow row row 1 := by
  intro j _
  simp [ppow, pmul]
theorem pmul_assoc (r : Int) (x y z : Int × Int) : pmul r (pmul r x y) z = pmul r x (pmul r y z) := by
  obtain ⟨a, b⟩ := x; obtain ⟨c, d⟩ := y; obtain ⟨e, f⟩ := z
  simp only [pmul, Prod.mk.injEq]
  constructor <;> grind
theorem ppow_add (r : Int) (x : Int × Int) (i j : Nat) : ppow r x (i + j) = pmul r (ppow r x i) (ppow r x j) := by
  induction j with
  | zero => simp [ppow, pmul]
  | succ j ih => rw [Nat.add_succ]; simp only [ppow]; rw [ih, pmul_assoc]
theorem getD_left (l m : List Int) (n : Nat) (h : n < l.length) : (l ++ m).getD n 0 = l.getD n 0 := by
  rw [List.getD_eq_getElem?_getD, List.getD_eq_getElem?_getD, List.getElem?_append_left h]
theorem getD_right (l m : List Int) (n : Nat) (h : l.length ≤ n) : (l ++ m).getD n 0 = m.getD (n - l.length) 0 := by
  rw [List.getD_eq_getElem?_getD, List.getD_eq_getElem?_getD, List.getElem?_append_right h]
theorem flat_get (f : Int → List Int) (hf : ∀ i, (f i).length = 4) : ∀ (is : List Int) (i r : Nat), i < is.length → r < 4 → (is.flatMap f).getD (4 * i + r) 0 = (f (is.getD i 0)).getD r 0
  | [], _, _, h, _ => absurd h (Nat.not_lt_zero _)
  | k :: q, 0, r, _, hr => by
    have h4 := hf k
    rw [List.flatMap_cons, Nat.mul_zero, Nat.zero_add]
    simp only [List.getD_cons_zero]
    rw [getD_left _ _ _ (by omega)]
  | k :: q, i + 1, r, h, hr => by
    have h4 := hf k
    rw [List.flatMap_cons, getD_right _ _ _ (by omega)]
    rw [show 4 * (i + 1) + r - (f k).length = 4 * i + r by omega]
    rw [flat_get f hf q i r (by simpa using h) hr]
    simp
theorem range_get {i n : Nat} (h : i < n) : (rangeKs 0 n).getD i 0 = (i : Int) := by
  simp [rangeKs, List.getD, h]
theorem coef_at {zz a b : List Int} {i r : Nat} (hi : i < 64) (hr : r < 4) : (coefL zz a b (rangeKs 0 64)).getD (4 * i + r) 0 = (quad zz a b (i : Int)).getD r 0 := by
  unfold coefL
  rw [flat_get _ (fun _ => rfl) _ _ _ (by rw [rangeKs_length]; exact hi) hr, range_get hi]
theorem fmod_dvd (x : Int) : (3329 : Int) ∣ (Int.fmod x 3329 - x) := ⟨-(Int.fdiv x 3329), by have := Int.fmod_def x 3329; omega⟩
theorem cong0 {a0 a1 b0 b1 p0 p1 q0 q1 z : Int} (h1 : (3329 : Int) ∣ a0 - p0) (h2 : (3329 : Int) ∣ a1 - p1) (h3 : (3329 : Int) ∣ b0 - q0) (h4 : (3329 : Int) ∣ b1 - q1) :
    (3329 : Int) ∣ (bm0 a0 a1 b0 b1 z - (p0 * q0 + z * p1 * q1)) := by
  obtain ⟨u0, h1⟩ := h1; obtain ⟨u1, h2⟩ := h2; obtain ⟨v0, h3⟩ := h3; obtain ⟨v1, h4⟩ := h4
  obtain ⟨t, ht⟩ := fmod_dvd (a0 * b0 + z * a1 * b1)
  refine ⟨t + (a0 * v0 + u0 * q0) + z * (a1 * v1 + u1 * q1), ?_⟩
  unfold bm0
  grind
theorem cong1 {a0 a1 b0 b1 p0 p1 q0 q1 : Int} (h1 : (3329 : Int) ∣ a0 - p0) (h2 : (3329 : Int) ∣ a1 - p1) (h3 : (3329 : Int) ∣ b0 - q0) (h4 : (3329 : Int) ∣ b1 - q1) :
    (3329 : Int) ∣ (bm1 a0 a1 b0 b1 - (p1 * q0 + p0 * q1)) := by
  obtain ⟨u0, h1⟩ := h1; obtain ⟨u1, h2⟩ := h2; obtain ⟨v0, h3⟩ := h3; obtain ⟨v1, h4⟩ := h4
  obtain ⟨t, ht⟩ := fmod_dvd (a1 * b0 + a0 * b1)
  refine ⟨t + (a1 * v0 + u1 * q0) + (a0 * v1 + u0 * q1), ?_⟩
  unfold bm1
  grind
theorem pair_coef {a b : List Int} {j : Nat} (hj : j < 128) : pairAt (coefL zetaL a b (rangeKs 0 64)) j = (bm0 (pairAt a j).1 (pairAt a j).2 (pairAt b j).1 (pairAt b j).2 (rt j), bm1 (pairAt a j).1 (pairAt a j).2 (pairAt b j).1 (pairAt b j).2) := by
  have hi : j / 2 < 64 := by omega
  unfold pairAt
  rcases Nat.mod_two_eq_zero_or_one j with h | h
  · have e0 : 2 * j = 4 * (j / 2) + 0 := by omega
    have e1 : 2 * j + 1 = 4 * (j / 2) + 1 := by omega
    have hr : rt j = zetaL.getD (64 + j / 2) 0 := by unfold rt; rw [if_pos h]
    rw [hr, e0, show 4 * (j / 2) + 0 + 1 = 4 * (j / 2) + 1 from rfl, coef_at hi (by decide), coef_at hi (by decide)]
    have n0 : (4 * ((j / 2 : Nat) : Int) + 0).toNat = 4 * (j / 2) + 0 := by omega
    have n1 : (4 * ((j / 2 : Nat) : Int) + 1).toNat = 4 * (j / 2) + 1 := by omega
    have n2 : (64 + ((j / 2 : Nat) : Int)).toNat = 64 + j / 2 := by omega
    simp only [quad, List.getD_cons_zero, List.getD_cons_succ, n0, n1, n2]
  · have e0 : 2 * j = 4 * (j / 2) + 2 := by omega
    have hr : rt j = -(zetaL.getD (64 + j / 2) 0) := by unfold rt; rw [if_neg (by omega)]
    rw [hr, e0, show 4 * (j / 2) + 2 + 1 = 4 * (j / 2) + 3 from rfl, coef_at hi (by decide), coef_at hi (by decide)]
    have n0 : (4 * ((j / 2 : Nat) : Int) + 2).toNat = 4 * (j / 2) + 2 := by omega
    have n1 : (4 * ((j / 2 : Nat) : Int) + 3).toNat = 4 * (j / 2) + 3 := by omega
    have n2 : (64 + ((j / 2 : Nat) : Int)).toNat = 64 + j / 2 := by omega
    simp only [quad, List.getD_cons_zero, List.getD_cons_succ, n0, n1, n2]
theorem isPow_mul {row a b : List Int} {i j : Nat} (ha : IsPow row a i) (hb : IsPow row b j) : IsPow row (coefL zetaL a b (rangeKs 0 64)) (i + j) := by
  intro t ht
  obtain ⟨a1, a2⟩ := ha t ht
  obtain ⟨b1, b2⟩ := hb t ht
  rw [pair_coef ht, ppow_add]
  exact ⟨cong0 a1 a2 b1 b2, cong1 a1 a2 b1 b2⟩
theorem mul_pow {row a b : List Int} {vs : List Value} {i j : Nat} (h : IntsAre vs (coefL zetaL a b (rangeKs 0 64))) (ha : IsPow row a i) (hb : IsPow row b j) : ∃ c, IsPow row c (i + j) ∧ IntsAre vs c ∧ c.length = 256 ∧ AllSz 4000000 c ∧ Red c :=
  ⟨_, isPow_mul ha hb, h, by rw [coefL_len, rangeKs_length], coefL_sz _ _ _ _, coefL_red _ _ _ _⟩
end Mine
end
section
open PySem PySem.W PyProof.Rows PySem.Calls
namespace Mine
theorem mul_bin {w : World} {A A₀ : Around} {s : Shared} {L : Addr} {h₀ base : Heap} {m mg mb : Str → Option Value} {loose : List Str} {mean : ExcName → Option Value}
    {env : Env} {outer : List Env} {Q : Value → Shared → Prop} {E : Value → Shared → Prop} {x dx lx y dy ly rg dr zl : Addr} {vx vy zs : List Value} {nx ny : Nat} {t1 t2 t3 t4 t5 t6 t7 u1 u2 u3 u4 : Tok} {a b zz : List Int}
    (B : Below A₀ base outer h₀) (F : Fr h₀ L s.heap m) (X₀ : (Mine.hd.heap_1 w.params).In h₀) (T : Top Mine.view loose mean mg mb h₀) (hA : A.frames = some (env :: outer)) (hf : env.frame = some L) (hke : env.scope.kind = .function)
    (hh : A.handled = none) (hu : A.units + 40 < cLine) (hroom : A.depth + 20 < recursionLimit)
    (N : News h₀ L s.heap [(x, instObj 426 dx), (dx, polyD w u1 u2 rg lx), (lx, listOf vx.toArray nx), (y, instObj 426 dy), (dy, polyD w u3 u4 rg ly), (ly, listOf vy.toArray ny), (rg, instObj 282 dr), (dr, ringD w t1 t2 t3 t4 t5 t6 t7 zl), (zl, LCg.lst zs)])
    (Ix : IntsAre vx a) (Iy : IntsAre vy b) (Iz : IntsAre zs zz) (la : a.length = 256) (lb : b.length = 256) (lz : zz.length = 128) (Sa : AllSz 4000000 a) (Sb : AllSz 4000000 b) (Sc : AllSz 16 zz)
    (hR : ∀ (h' : Heap) (tk : Nat) (vs : List Value) (nl : Nat) (l' dx' x' : Addr) (v1 v2 : Tok), (∀ b o, s.heap.get? b = some o → h'.get? b = some o) → h'.get? x' = some (instObj 426 dx') → h'.get? dx' = some (polyD w v1 v2 rg l') → h'.get? l' = some (listOf vs.toArray nl) →
      s.heap.get? x' = none → s.heap.get? dx' = none → s.heap.get? l' = none → IntsAre vs (coefL zz a b (rangeKs 0 64)) → Q (.ref x') { s with heap := h', toks := tk }) :
    wpAny (model PR w) A (binaryOp .Mult (.ref x) (.ref y)) Q E s := by
  unfold PR
  revert X₀
  k_fill
  intro X₀
  refine' binop_K ?F ?X ?I ?hb ?hc ?hs ?hf ?_
  case F => exact F
  case X => exact X₀
  case I => k_inst
  case hb => k_typeOf
  case hc => k_is
  case hs => k_is
  case hf => k_is
  refine wpAny_call (mul_core B F X₀ T hA hf hke hh hu hroom N Ix Iy Iz la lb lz Sa Sb Sc ?_)
  intro h' tk vs nl l' dx' x' v1 v2 st g1 g2 g3 f1 f2 f3 I
  show PySem.W.CmpBack Q _ _
  unfold PySem.W.CmpBack
  exact hR h' tk vs nl l' dx' x' v1 v2 st g1 g2 g3 f1 f2 f3 I
theorem news_add3 {h₀ h h' : Heap} {L x d l : Addr} {m : Str → Option Value} {ox od ol : Obj} {news : List (Addr × Obj)} (F : Fr h₀ L h m) (N : News h₀ L h news) (k : ∀ b o, h.get? b = some o → h'.get? b = some o)
    (h1 : h'.get? x = some ox) (h2 : h'.get? d = some od) (h3 : h'.get? l = some ol) (f1 : h.get? x = none) (f2 : h.get? d = none) (f3 : h.get? l = none) : News h₀ L h' ((x, ox) :: (d, od) :: (l, ol) :: news) := by
  have n1 := news_add F N k h1 f1
  have n2 := news_add F N k h2 f2
  have n3 := news_add F N k h3 f3
  intro p hp
  rcases List.mem_cons.mp hp with rfl | hp
  · exact n1 _ (.head _)
  rcases List.mem_cons.mp hp with rfl | hp
  · exact n2 _ (.head _)
  rcases List.mem_cons.mp hp with rfl | hp
  · exact n3 _ (.head _)
  · exact n1 _ (.tail _ hp)
theorem news_skip {h₀ h : Heap} {L x d l : Addr} {a b c : Addr × Obj} {n : Nat} {vs : List Value} {w : World} {v1 v2 : Tok} {rg : Addr} {rest : List (Addr × Obj)} (N : News h₀ L h (a :: b :: c :: (x, instObj 426 d) :: (d, polyD w v1 v2 rg l) :: (l, listOf vs.toArray n) :: rest)) : News h₀ L h (a :: b :: c :: rest) := by
  intro p hp
  refine N p ?_
  rcases List.mem_cons.mp hp with rfl | hp
  · exact .head _
  rcases List.mem_cons.mp hp with rfl | hp
  · exact .tail _ (.head _)
  rcases List.mem_cons.mp hp with rfl | hp
  · exact .tail _ (.tail _ (.head _))
  · exact .tail _ (.tail _ (.tail _ (.tail _ (.tail _ (.tail _ hp)))))
theorem news_skip1 {h₀ h : Heap} {L x d l : Addr} {a b c e : Addr × Obj} {n : Nat} {vs : List Value} {w : World} {v1 v2 : Tok} {rg : Addr} {rest : List (Addr × Obj)} (N : News h₀ L h (a :: b :: c :: e :: (x, instObj 426 d) :: (d, polyD w v1 v2 rg l) :: (l, listOf vs.toArray n) :: rest)) : News h₀ L h (a :: b :: c :: e :: rest) := by
  intro p hp
  refine N p ?_
  rcases List.mem_cons.mp hp with rfl | hp
  · exact .head _
  rcases List.mem_cons.mp hp with rfl | hp
  · exact .tail _ (.head _)
  rcases List.mem_cons.mp hp with rfl | hp
  · exact .tail _ (.tail _ (.head _))
  rcases List.mem_cons.mp hp with rfl | hp
  · exact .tail _ (.tail _ (.tail _ (.head _)))
  · exact .tail _ (.tail _ (.tail _ (.tail _ (.tail _ (.tail _ (.tail _ hp))))))
theorem pow_step {w : World} {A A₀ : Around} {s : Shared} {L : Addr} {h₀ base : Heap} {m mg mb : Str → Option Value} {loose : List Str} {mean : ExcName → Option Value} {cn : Str} {cs : Scope} {ac : Addr} {ccd : Value} {cl : List (Str × Addr)} {outer : List Env}
    {Q : Flow → Shared → Prop} {E : Value → Shared → Prop} {x dx lx y dy ly rg dr zl : Addr} {vx vy zs : List Value} {nx ny : Nat} {t1 t2 t3 t4 t5 t6 t7 u1 u2 u3 u4 : Tok} {ca cb row : List Int} {i j : Nat} {t a b : Str} {p1 p2 p3 p4 p5 : Pos} {news : List (Addr × Obj)}
    (B : Below A₀ base outer h₀) (F : Fr h₀ L s.heap m) (X₀ : (Mine.hd.heap_1 w.params).In h₀) (T : Top Mine.view loose mean mg mb h₀) (hA : A.frames = some (envX cn cs L ac ccd cl :: outer)) (hks : cs.kind = .function)
    (hh : A.handled = none) (hu : A.units + 40 < cLine) (hroom : A.depth + 20 < recursionLimit)
    (va : m a = some (.ref x)) (vb : m b = some (.ref y)) (ka : (envX cn cs L ac ccd cl).kindOf a = some .local) (kb : (envX cn cs L ac ccd cl).kindOf b = some .local) (kt : (envX cn cs L ac ccd cl).kindOf t = some .local) (da : (a == ("__debug__" : Str)) = false) (db : (b == ("__debug__" : Str)) = false)
    (N : News h₀ L s.heap news) (M : ∀ p ∈ [(x, instObj 426 dx), (dx, polyD w u1 u2 rg lx), (lx, listOf vx.toArray nx), (y, instObj 426 dy), (dy, polyD w u3 u4 rg ly), (ly, listOf vy.toArray ny), (rg, instObj 282 dr), (dr, ringD w t1 t2 t3 t4 t5 t6 t7 zl), (zl, LCg.lst zs)], p ∈ news)
    (Pa : IsPow row ca i) (Pb : IsPow row cb j) (Ix : IntsAre vx ca) (Iy : IntsAre vy cb) (Iz : IntsAre zs zetaL) (la : ca.length = 256) (lb : cb.length = 256) (Sa : AllSz 4000000 ca) (Sb : AllSz 4000000 cb)
    (hR : ∀ (h' : Heap) (tk : Nat) (x' d' l' : Addr) (v1 v2 : Tok) (vs : List Value) (nl : Nat) (e : List Int), Fr h₀ L h' (fun z => if z = t then some (.ref x') else m z) → News h₀ L h' ((x', instObj 426 d') :: (d', polyD w v1 v2 rg l') :: (l', listOf vs.toArray nl) :: news) →
      IsPow row e (i + j) → IntsAre vs e → e.length = 256 → AllSz 4000000 e → Red e → Q .next { s with heap := h', toks := tk }) :
    wpAny (model PR w) A (exec (.Assign [.Name t p1] (.BinOp (.Name a p2) .Mult (.Name b p3) p4) p5) (envX cn cs L ac ccd cl)) Q E s := by
  refine wpAny_Assign_Name (wpAny_BinOp ?_)
  refine nameX_L F va ?_ hks ka da
  refine nameX_L F vb ?_ hks kb db
  refine mul_bin B F X₀ T hA rfl hks hh hu hroom (kst_newsOf N M) Ix Iy Iz la lb zetaL_len Sa Sb zetaL_sz ?_
  intro h' tk vs nl l' dx' x' v1 v2 st g1 g2 g3 f1 f2 f3 I
  obtain ⟨e, Pe, Ie, le, Se, Re⟩ := mul_pow I Pa Pb
  refine storeX_L (Fr.stay F st) (news_add3 F N st g1 g2 g3 f1 f2 f3) ?_ hks kt
  intro h'' F'' N''
  exact hR _ _ _ _ _ _ _ _ _ _ F'' N'' Pe Ie le Se Re
end Mine
end
section
open PySem PySem.W PyProof.Rows PySem.Calls
namespace Mine
def ch : Nat → Nat → Nat
  | _, 0 => 1
  | 0, _ + 1 => 0
  | n + 1, k + 1 => ch n k + ch n (k + 1)
theorem ch_zero (n : Nat) : ch n 0 = 1 := by cases n <;> rfl
theorem ch_over : ∀ (n k : Nat), n < k → ch n k = 0
  | 0, k + 1, _ => rfl
  | n + 1, k + 1, h => by
    show ch n k + ch n (k + 1) = 0
    rw [ch_over n k (by omega), ch_over n (k + 1) (by omega)]
theorem ch_self : ∀ n, ch n n = 1
  | 0 => rfl
  | n + 1 => by
    show ch n n + ch n (n + 1) = 1
    rw [ch_self n, ch_over n (n + 1) (by omega)]
theorem ch_mul : ∀ (n k : Nat), (k + 1) * ch (n + 1) (k + 1) = (n + 1) * ch n k
  | 0, 0 => rfl
  | 0, k + 1 => by
    show (k + 1 + 1) * (ch 0 (k + 1) + ch 0 (k + 1 + 1)) = 1 * ch 0 (k + 1)
    simp [ch]
  | n + 1, 0 => by
    have ih := ch_mul n 0
    show 1 * (ch (n + 1) 0 + ch (n + 1) 1) = (n + 2) * ch (n + 1) 0
    rw [ch_zero] at *
    simp only [Nat.zero_add] at *
    omega
  | n + 1, k + 1 => by
    have i1 := ch_mul n (k + 1)
    have i2 := ch_mul n k
    have e1 : ch (n + 1 + 1) (k + 1 + 1) = ch (n + 1) (k + 1) + ch (n + 1) (k + 1 + 1) := rfl
    have e2 : ch (n + 1) (k + 1) = ch n k + ch n (k + 1) := rfl
    rw [e1]
    grind
theorem cop : ∀ k, k < 3328 → Nat.gcd 3329 (k + 1) = 1 := by decide +kernel
theorem ch_dvd {k : Nat} (h0 : 0 < k) (h1 : k < 3329) : 3329 ∣ ch 3329 k := by
  obtain ⟨j, rfl⟩ : ∃ j, k = j + 1 := ⟨k - 1, by omega⟩
  have h := ch_mul 3328 j
  have c : Nat.Coprime 3329 (j + 1) := cop j (by omega)
  exact c.dvd_of_dvd_mul_left ⟨_, h⟩
def padd (x y : Int × Int) : Int × Int := (x.1 + y.1, x.2 + y.2)
def psc (n : Nat) (x : Int × Int) : Int × Int := ((n : Int) * x.1, (n : Int) * x.2)
def sumTo : Nat → (Nat → Int × Int) → Int × Int
  | 0, _ => (0, 0)
  | m + 1, f => padd (sumTo m f) (f m)
theorem sumTo_succ (m : Nat) (f : Nat → Int × Int) : sumTo (m + 1) f = padd (sumTo m f) (f m) := rfl
theorem sum_step (r : Int) (z : Int × Int) (n : Nat) : ∀ m, sumTo (m + 1) (fun k => psc (ch (n + 1) k) (ppow r z k)) = padd (sumTo (m + 1) fun k => psc (ch n k) (ppow r z k)) (sumTo m fun k => psc (ch n k) (ppow r z (k + 1)))
  | 0 => by simp [sumTo, padd, psc, ch_zero]
  | m + 1 => by
    have ih := sum_step r z n m
    rw [sumTo_succ (m + 1) (fun k => psc (ch (n + 1) k) (ppow r z k)), ih, sumTo_succ (m + 1) (fun k => psc (ch n k) (ppow r z k)), sumTo_succ m (fun k => psc (ch n k) (ppow r z (k + 1)))]
    have e2 : ch (n + 1) (m + 1) = ch n m + ch n (m + 1) := rfl
    rw [e2]
    simp only [padd, psc, Prod.mk.injEq]
    constructor <;> grind
theorem sum_mul (r : Int) (z : Int × Int) (n : Nat) : ∀ m, sumTo m (fun k => psc (ch n k) (ppow r z (k + 1))) = pmul r (sumTo m fun k => psc (ch n k) (ppow r z k)) z
  | 0 => by simp [sumTo, pmul]
  | m + 1 => by
    rw [sumTo, sum_mul r z n m, sumTo]
    simp only [padd, psc, pmul, ppow, Prod.mk.injEq]
    constructor <;> grind
theorem binom (r : Int) (z : Int × Int) : ∀ n, ppow r (padd z (1, 0)) n = sumTo (n + 1) fun k => psc (ch n k) (ppow r z k)
  | 0 => by simp [sumTo, padd, psc, ppow, ch]
  | n + 1 => by
    rw [sum_step r z n (n + 1), sum_mul, ppow, binom r z n]
    rw [sumTo_succ (n + 1) (fun k => psc (ch n k) (ppow r z k)), ch_over n (n + 1) (by omega)]
    generalize sumTo (n + 1) (fun k => psc (ch n k) (ppow r z k)) = S
    simp only [padd, psc, pmul, Prod.mk.injEq]
    constructor <;> grind
def Cg (x y : Int × Int) : Prop := (3329 : Int) ∣ x.1 - y.1 ∧ (3329 : Int) ∣ x.2 - y.2
theorem sum_low {f : Nat → Int × Int} : ∀ m, (∀ k, 0 < k → k ≤ m → Cg (f k) (0, 0)) → Cg (sumTo (m + 1) f) (f 0)
  | 0, _ => by simp [sumTo, padd, Cg]
  | m + 1, h => by
    have ih := sum_low m fun k h0 h1 => h k h0 (by omega)
    have hm := h (m + 1) (by omega) (by omega)
    rw [sumTo]
    obtain ⟨⟨u, hu⟩, ⟨v, hv⟩⟩ := ih
    obtain ⟨⟨s, hs⟩, ⟨t, ht⟩⟩ := hm
    refine ⟨⟨u + s, ?_⟩, ⟨v + t, ?_⟩⟩ <;> simp only [padd] at * <;> omega
theorem frob1 (r : Int) (z : Int × Int) : Cg (ppow r (padd z (1, 0)) 3329) (padd (ppow r z 3329) (1, 0)) := by
  rw [binom r z 3329, sumTo]
  have h : Cg (sumTo 3329 fun k => psc (ch 3329 k) (ppow r z k)) (psc (ch 3329 0) (ppow r z 0)) := sum_low (f := fun k => psc (ch 3329 k) (ppow r z k)) 3328 fun k h0 h1 => by
    obtain ⟨t, ht⟩ := ch_dvd h0 (by omega)
    rw [ht]
    refine ⟨⟨(t : Int) * (ppow r z k).1, ?_⟩, ⟨(t : Int) * (ppow r z k).2, ?_⟩⟩
    · simp only [psc]; push_cast; grind
    · simp only [psc]; push_cast; grind
  rw [ch_self]
  revert h
  generalize (sumTo 3329 fun k => psc (ch 3329 k) (ppow r z k)) = S
  generalize ppow r z 3329 = W
  intro h
  obtain ⟨⟨u, hu⟩, ⟨v, hv⟩⟩ := h
  simp [ch_zero, psc, ppow] at hu hv
  refine ⟨⟨u, ?_⟩, ⟨v, ?_⟩⟩ <;> simp [padd, psc] <;> omega
theorem Cg.refl (x : Int × Int) : Cg x x := ⟨⟨0, by omega⟩, ⟨0, by omega⟩⟩
theorem Cg.symm {x y : Int × Int} (h : Cg x y) : Cg y x := by
  obtain ⟨⟨u, hu⟩, ⟨v, hv⟩⟩ := h
  exact ⟨⟨-u, by omega⟩, ⟨-v, by omega⟩⟩
theorem Cg.trans {x y z : Int × Int} (h : Cg x y) (g : Cg y z) : Cg x z := by
  obtain ⟨⟨u, hu⟩, ⟨v, hv⟩⟩ := h
  obtain ⟨⟨s, hs⟩, ⟨t, ht⟩⟩ := g
  exact ⟨⟨u + s, by omega⟩, ⟨v + t, by omega⟩⟩
theorem Cg.mul {r : Int} {x y p q : Int × Int} (h : Cg x p) (g : Cg y q) : Cg (pmul r x y) (pmul r p q) := by
  obtain ⟨⟨u, hu⟩, ⟨v, hv⟩⟩ := h
  obtain ⟨⟨s, hs⟩, ⟨t, ht⟩⟩ := g
  refine ⟨⟨x.1 * s + u * q.1 + r * (x.2 * t + v * q.2), ?_⟩, ⟨x.2 * s + v * q.1 + (x.1 * t + u * q.2), ?_⟩⟩
  · simp only [pmul]; grind
  · simp only [pmul]; grind
theorem Cg.pow {r : Int} {x y : Int × Int} (h : Cg x y) : ∀ n, Cg (ppow r x n) (ppow r y n)
  | 0 => Cg.refl _
  | n + 1 => Cg.mul (Cg.pow h n) h
theorem Cg.add {x y p q : Int × Int} (h : Cg x p) (g : Cg y q) : Cg (padd x y) (padd p q) := by
  obtain ⟨⟨u, hu⟩, ⟨v, hv⟩⟩ := h
  obtain ⟨⟨s, hs⟩, ⟨t, ht⟩⟩ := g
  refine ⟨⟨u + s, ?_⟩, ⟨v + t, ?_⟩⟩ <;> simp only [padd] <;> omega
theorem frobN (r : Int) (z : Int × Int) : ∀ n : Nat, Cg (ppow r (padd z ((n : Int), 0)) 3329) (padd (ppow r z 3329) ((n : Int), 0))
  | 0 => by
    have e : padd z (((0 : Nat) : Int), 0) = z := by simp [padd]
    have e2 : padd (ppow r z 3329) (((0 : Nat) : Int), 0) = ppow r z 3329 := by simp [padd]
    rw [e, e2]; exact Cg.refl _
  | n + 1 => by
    have ih := frobN r z n
    have h := frob1 r (padd z ((n : Int), 0))
    have e : padd (padd z ((n : Int), 0)) (1, 0) = padd z (((n + 1 : Nat) : Int), 0) := by simp [padd]; omega
    rw [e] at h
    refine h.trans ((Cg.add ih (Cg.refl (1, 0))).trans ?_)
    have e3 : padd (padd (ppow r z 3329) ((n : Int), 0)) (1, 0) = padd (ppow r z 3329) (((n + 1 : Nat) : Int), 0) := by simp [padd]; omega
    rw [e3]; exact Cg.refl _
-- powers of (0, b)
theorem pow_even (r b : Int) : ∀ m : Nat, ppow r (0, b) (2 * m) = ((r * b * b) ^ m, 0)
  | 0 => by simp [ppow]
  | m + 1 => by
    rw [show 2 * (m + 1) = 2 * m + 1 + 1 by omega]
    simp only [ppow]
    rw [pow_even r b m]
    simp only [pmul, Prod.mk.injEq]
    constructor <;> grind
theorem pow_scal (r b : Int) : ∀ m : Nat, ppow r (b, 0) m = (b ^ m, 0)
  | 0 => by simp [ppow]
  | m + 1 => by
    simp only [ppow]
    rw [pow_scal r b m]
    simp only [pmul, Prod.mk.injEq]
    constructor <;> grind
end Mine
end
section
open PySem PySem.W PyProof.Rows PySem.Calls
namespace Mine
theorem fermat (n : Nat) : (3329 : Int) ∣ ((n : Int) ^ 3329 - n) := by
  have h := (frobN 0 (0, 0) n).1
  have e : padd (0, 0) ((n : Int), 0) = ((n : Int), 0) := by simp [padd]
  rw [e, pow_scal, pow_scal] at h
  simp only [padd] at h
  rw [Int.zero_pow (by decide)] at h
  simpa using h
theorem rtn : ∀ i : Nat, i < 64 → (Builtin.powMod 17 (brF ((64 + i : Nat) : Int)).natAbs 3329) ^ 1664 % 3329 = 3328 := by decide +kernel
theorem zeta_get {i : Nat} (h : i < 128) : zetaL.getD i 0 = ((Builtin.powMod 17 (brF (i : Int)).natAbs 3329 : Nat) : Int) := by
  unfold zetaL
  have e : ((rangeKs 0 128).map fun k => pw17 (brF k)).getD i 0 = pw17 (brF (i : Int)) := by
    simp [rangeKs, List.getD, h]
  rw [e]; unfold pw17; rfl
theorem even_pow (z : Int) : (-z) ^ 1664 = z ^ 1664 := by
  rw [show 1664 = 2 * 832 from rfl, Int.pow_mul, Int.pow_mul, show (-z) ^ 2 = z ^ 2 by grind]
theorem rt_pow {j : Nat} (h : j < 128) : (3329 : Int) ∣ (rt j ^ 1664 + 1) := by
  have hi : j / 2 < 64 := by omega
  have hz := zeta_get (i := 64 + j / 2) (by omega)
  have hp := rtn (j / 2) hi
  have e : rt j ^ 1664 = ((Builtin.powMod 17 (brF ((64 + j / 2 : Nat) : Int)).natAbs 3329 : Nat) : Int) ^ 1664 := by
    unfold rt
    split
    · rw [hz]
    · rw [even_pow, hz]
  rw [e]
  generalize Builtin.powMod 17 (brF ((64 + j / 2 : Nat) : Int)).natAbs 3329 = z at hp
  have e2 : ((z : Nat) : Int) ^ 1664 = ((z ^ 1664 : Nat) : Int) := by push_cast; rfl
  rw [e2]
  generalize z ^ 1664 = y at hp
  omega
theorem ppow_succ (r : Int) (x : Int × Int) (n : Nat) : ppow r x (n + 1) = pmul r (ppow r x n) x := rfl
theorem odd_pow' (r b : Int) (m : Nat) : ppow r (0, b) (2 * m + 1) = (0, r ^ m * b ^ (2 * m + 1)) := by
  rw [ppow_succ, pow_even]
  have e : (r * b * b) ^ m * b = r ^ m * b ^ (2 * m + 1) := by
    rw [Int.mul_assoc r b b, Int.mul_pow, Int.pow_succ, Int.pow_mul, show b ^ 2 = b * b by grind, Int.mul_assoc]
  simp only [pmul, Prod.mk.injEq]
  constructor
  · grind
  · rw [← e]; grind
theorem odd_pow (r b : Int) : ppow r (0, b) 3329 = (0, r ^ 1664 * b ^ 3329) := odd_pow' r b 1664
theorem frob {j : Nat} (h : j < 128) (a b : Int) : Cg (ppow (rt j) (a, b) 3329) (a, -b) := by
  have ha : (3329 : Int) ∣ a - ((a % 3329).toNat : Int) := by omega
  have hb : (3329 : Int) ∣ b - ((b % 3329).toNat : Int) := by omega
  generalize (a % 3329).toNat = x at ha
  generalize (b % 3329).toNat = y at hb
  have h1 : Cg (a, b) (padd (0, (y : Int)) ((x : Int), 0)) := by
    refine ⟨?_, ?_⟩ <;> simp only [padd] <;> omega
  refine (Cg.pow h1 3329).trans ((frobN _ _ x).trans ?_)
  rw [odd_pow]
  obtain ⟨s, hs⟩ := rt_pow h
  obtain ⟨t, ht⟩ := fermat y
  generalize rt j ^ 1664 = R at hs
  generalize (y : Int) ^ 3329 = Y at ht
  refine ⟨?_, ?_⟩
  · simp only [padd]; omega
  · obtain ⟨u, hu⟩ := hb
    refine ⟨s * Y - t + u, ?_⟩
    simp only [padd]
    grind
end Mine
end
section
open PySem PySem.W PyProof.Rows PySem.Calls
namespace Mine
theorem flat_get2 (f : Int → List Int) (hf : ∀ i, (f i).length = 2) : ∀ (is : List Int) (i r : Nat), i < is.length → r < 2 → (is.flatMap f).getD (2 * i + r) 0 = (f (is.getD i 0)).getD r 0
  | [], _, _, h, _ => absurd h (Nat.not_lt_zero _)
  | k :: q, 0, r, _, hr => by
    have h4 := hf k
    rw [List.flatMap_cons, Nat.mul_zero, Nat.zero_add]
    simp only [List.getD_cons_zero]
    rw [getD_left _ _ _ (by omega)]
  | k :: q, i + 1, r, h, hr => by
    have h4 := hf k
    rw [List.flatMap_cons, getD_right _ _ _ (by omega)]
    rw [show 2 * (i + 1) + r - (f k).length = 2 * i + r by omega]
    rw [flat_get2 f hf q i r (by simpa using h) hr]
    simp
theorem pair_map (f : Int → List Int) (hf : ∀ i, (f i).length = 2) {j : Nat} (hj : j < 128) : pairAt (mapL f (rangeKs 0 128)) j = ((f (j : Int)).getD 0 0, (f (j : Int)).getD 1 0) := by
  unfold pairAt mapL
  have h0 := flat_get2 f hf (rangeKs 0 128) j 0 (by rw [rangeKs_length]; exact hj) (by decide)
  have h1 := flat_get2 f hf (rangeKs 0 128) j 1 (by rw [rangeKs_length]; exact hj) (by decide)
  rw [range_get hj] at h0 h1
  rw [Nat.add_zero] at h0
  rw [h0, h1]
theorem list_pairs {c d : List Int} (hc : c.length = 256) (hd : d.length = 256) (h : ∀ j : Nat, j < 128 → pairAt c j = pairAt d j) : c = d := by
  refine List.ext_getElem (by rw [hc, hd]) fun n h1 h2 => ?_
  have e1 : c.getD n 0 = c[n] := by simp [List.getD, h1]
  have e2 : d.getD n 0 = d[n] := by simp [List.getD, h2]
  rw [← e1, ← e2]
  have hp := h (n / 2) (by omega)
  unfold pairAt at hp
  have p1 := congrArg Prod.fst hp
  have p2 := congrArg Prod.snd hp
  dsimp only at p1 p2
  rcases Nat.mod_two_eq_zero_or_one n with q | q
  · rw [show n = 2 * (n / 2) by omega]; exact p1
  · rw [show n = 2 * (n / 2) + 1 by omega]; exact p2
theorem mapL_len256 (f : Int → List Int) (hf : ∀ i, (f i).length = 2) : (mapL f (rangeKs 0 128)).length = 256 := by
  rw [mapL_len2 f hf, rangeKs_length]
theorem red_at {c : List Int} (h : Red c) (lc : c.length = 256) {n : Nat} (hn : n < 256) : 0 ≤ c.getD n 0 ∧ c.getD n 0 < 3329 := by
  have e1 : c.getD n 0 = c[n] := by simp [List.getD, lc, hn]
  rw [e1]; exact h _ (List.getElem_mem (by omega))
theorem fmod_eq {x y : Int} (h0 : 0 ≤ x) (h1 : x < 3329) (h : (3329 : Int) ∣ x - y) : x = Int.fmod y 3329 := by
  rw [Int.fmod_eq_emod_of_nonneg _ (by decide)]
  omega
theorem toNat2 (j : Nat) : (2 * (j : Int)).toNat = 2 * j ∧ (2 * (j : Int) + 1).toNat = 2 * j + 1 ∧ ((j : Int)).toNat = j := by omega
theorem pow_raised {row c : List Int} (h : IsPow row c 3329) (lc : c.length = 256) (hr : Red c) : c = mapL (raisedT row) (rangeKs 0 128) := by
  refine list_pairs lc (mapL_len256 _ fun _ => rfl) fun j hj => ?_
  rw [pair_map _ (fun _ => rfl) hj]
  obtain ⟨p1, p2⟩ := h j hj
  obtain ⟨f1, f2⟩ := frob hj (pairAt row j).1 (pairAt row j).2
  obtain ⟨n0, n1, _⟩ := toNat2 j
  simp only [raisedT, List.getD_cons_zero, List.getD_cons_succ, n0, n1]
  have r1 := red_at hr lc (n := 2 * j) (by omega)
  have r2 := red_at hr lc (n := 2 * j + 1) (by omega)
  have g1 : (3329 : Int) ∣ (pairAt c j).1 - (pairAt row j).1 := by
    have := Int.dvd_add p1 f1; rw [show (pairAt c j).1 - (ppow (rt j) (pairAt row j) 3329).1 + ((ppow (rt j) ((pairAt row j).1, (pairAt row j).2) 3329).1 - (pairAt row j).1) = (pairAt c j).1 - (pairAt row j).1 by grind] at this; exact this
  have g2 : (3329 : Int) ∣ (pairAt c j).2 - -(pairAt row j).2 := by
    have := Int.dvd_add p2 f2; rw [show (pairAt c j).2 - (ppow (rt j) (pairAt row j) 3329).2 + ((ppow (rt j) ((pairAt row j).1, (pairAt row j).2) 3329).2 - -(pairAt row j).2) = (pairAt c j).2 - -(pairAt row j).2 by grind] at this; exact this
  show (c.getD (2 * j) 0, c.getD (2 * j + 1) 0) = _
  rw [Prod.mk.injEq]
  exact ⟨fmod_eq r1.1 r1.2 g1, fmod_eq r2.1 r2.2 g2⟩
theorem roots_match : (List.range 128).all (fun j => (rt j - rootsL.getD j 0) % 3329 == 0) = true := by
  unfold rt rootsL zetaL pw17; decide +kernel
end Mine
end
section
open PySem PySem.W PyProof.Rows PySem.Calls
namespace Mine
theorem fmod_congr {x y : Int} (h : (3329 : Int) ∣ x - y) : Int.fmod x 3329 = Int.fmod y 3329 := by
  rw [Int.fmod_eq_emod_of_nonneg _ (by decide), Int.fmod_eq_emod_of_nonneg _ (by decide)]
  omega
theorem rt_root {j : Nat} (h : j < 128) : (3329 : Int) ∣ rt j - rootsL.getD j 0 := by
  have hm := List.all_eq_true.mp roots_match j (List.mem_range.mpr h)
  have := beq_iff_eq.mp hm
  omega
theorem norms_ok (row : List Int) : coefL zetaL row (mapL (raisedT row) (rangeKs 0 128)) (rangeKs 0 64) = mapL (normsT row rootsL) (rangeKs 0 128) := by
  refine list_pairs (by rw [coefL_len, rangeKs_length]) (mapL_len256 _ fun _ => rfl) fun j hj => ?_
  rw [pair_coef hj, pair_map _ (fun _ => rfl) hj, pair_map _ (fun _ => rfl) hj]
  obtain ⟨n0, n1, n2⟩ := toNat2 j
  simp only [raisedT, normsT, List.getD_cons_zero, List.getD_cons_succ, n0, n1, n2]
  show (bm0 (row.getD (2 * j) 0) (row.getD (2 * j + 1) 0) _ _ _, bm1 (row.getD (2 * j) 0) (row.getD (2 * j + 1) 0) _ _) = _
  generalize row.getD (2 * j) 0 = a
  generalize row.getD (2 * j + 1) 0 = b
  obtain ⟨u, hu⟩ := rt_root hj
  obtain ⟨s, hs⟩ := fmod_dvd a
  obtain ⟨t, ht⟩ := fmod_dvd (-b)
  generalize rt j = r at hu
  generalize rootsL.getD j 0 = ρ at hu
  generalize Int.fmod a 3329 = x at hs
  generalize Int.fmod (-b) 3329 = y at ht
  rw [Prod.mk.injEq]
  refine ⟨?_, ?_⟩
  · unfold bm0
    exact fmod_congr ⟨a * s + r * b * t - u * b * b, by grind⟩
  · unfold bm1
    rw [show (0 : Int) = Int.fmod 0 3329 from rfl]
    exact fmod_congr ⟨b * s + a * t, by grind⟩
theorem zip_get {f : Int → Int → Int} {c d : List Int} {n : Nat} (hc : n < c.length) (hd : n < d.length) : (List.zipWith f c d).getD n 0 = f (c.getD n 0) (d.getD n 0) := by
  simp [List.getD, hc, hd, List.getElem?_zipWith]
theorem twice_ok {row : List Int} (la : row.length = 256) : List.zipWith (fun x y => Int.fmod (x + y) 3329) (mapL (raisedT row) (rangeKs 0 128)) row = mapL (twiceT row) (rangeKs 0 128) := by
  have lm := mapL_len256 (raisedT row) (fun _ => rfl)
  refine list_pairs (by rw [List.length_zipWith, lm, la]; rfl) (mapL_len256 _ fun _ => rfl) fun j hj => ?_
  have e : pairAt (List.zipWith (fun x y => Int.fmod (x + y) 3329) (mapL (raisedT row) (rangeKs 0 128)) row) j = (Int.fmod ((pairAt (mapL (raisedT row) (rangeKs 0 128)) j).1 + row.getD (2 * j) 0) 3329, Int.fmod ((pairAt (mapL (raisedT row) (rangeKs 0 128)) j).2 + row.getD (2 * j + 1) 0) 3329) := by
    show ((List.zipWith _ _ _).getD (2 * j) 0, (List.zipWith _ _ _).getD (2 * j + 1) 0) = _
    rw [zip_get (by omega) (by omega), zip_get (by omega) (by omega)]
    rfl
  rw [e, pair_map _ (fun _ => rfl) hj, pair_map _ (fun _ => rfl) hj]
  obtain ⟨n0, n1, n2⟩ := toNat2 j
  simp only [raisedT, twiceT, List.getD_cons_zero, List.getD_cons_succ, n0, n1, n2]
  generalize row.getD (2 * j) 0 = a
  generalize row.getD (2 * j + 1) 0 = b
  obtain ⟨s, hs⟩ := fmod_dvd a
  obtain ⟨t, ht⟩ := fmod_dvd (-b)
  rw [Prod.mk.injEq]
  refine ⟨fmod_congr ⟨s, by omega⟩, ?_⟩
  rw [show (0 : Int) = Int.fmod 0 3329 from rfl]
  exact fmod_congr ⟨t, by omega⟩
end Mine
end
section
open PySem PySem.W PyProof.Rows PySem.Calls
namespace Mine
abbrev HdArg {P Q : Prop} (_ : P → Q) : Prop := P
theorem news_stay {h₀ h h' : Heap} {L : Addr} {news : List (Addr × Obj)} (N : News h₀ L h news) (k : ∀ b o, h.get? b = some o → h'.get? b = some o) : News h₀ L h' news := fun p hp => ⟨k _ _ (N p hp).1, (N p hp).2⟩
theorem news_pickA {h₀ h : Heap} {L : Addr} {a b c d e f g i j k l : Addr × Obj} {rest : List (Addr × Obj)} (N : News h₀ L h (a :: b :: c :: d :: e :: f :: g :: i :: j :: k :: l :: rest)) : News h₀ L h (a :: b :: c :: d :: i :: j :: rest) := by
  intro p hp
  refine N p ?_
  simp only [List.mem_cons] at hp ⊢
  rcases hp with h | h | h | h | h | h | h <;> simp only [h, true_or, or_true]
theorem news_pickB {h₀ h : Heap} {L : Addr} {a b c d e : Addr × Obj} {rest : List (Addr × Obj)} (N : News h₀ L h (a :: b :: c :: d :: e :: rest)) : News h₀ L h (a :: b :: c :: d :: rest) := by
  intro p hp
  refine N p ?_
  simp only [List.mem_cons] at hp ⊢
  rcases hp with h | h | h | h | h <;> simp only [h, true_or, or_true]
local macro_rules | `(tactic| k_qdec) => `(tactic| decide +kernel)
local macro_rules | `(tactic| walk_at "call builtin:bin") => `(tactic| (refine bin_br (by omega) (by omega) ?_; intro t'))
local macro_rules | `(tactic| walk_at "call builtin:pow") => `(tactic| first
  | (refine pow3 (gives_pow_inv _ _ _) ?_; intro t' tk')
  | (refine pow17 (brF_nonneg _) ?_; intro t' tk'))
local macro_rules | `(tactic| walk_at "subscriptTail") => `(tactic| ((with_reducible show wpAny _ _ (subscriptTail _ (Expr.Slice (some _) none none _) (Value.str _ _) _) _ _ _); (with_reducible rename Fr _ _ _ _ => F'); (with_reducible rename News _ _ _ _ => N'); (refine slice_br (s := ⟨_, _, _, _, _⟩) (by omega) (by omega) F' N' ?_); clear F' N'; intro h' t' tk' F' N'))
local macro_rules | `(tactic| walk_at "subscriptTail") => `(tactic| ((with_reducible show wpAny _ _ (subscriptTail _ (Expr.Slice none none (some _) _) (Value.str _ _) _) _ _ _); (with_reducible rename Fr _ _ _ _ => F'); (with_reducible rename News _ _ _ _ => N'); (refine rev_br (s := ⟨_, _, _, _, _⟩) (by omega) (by omega) F' N' ?_); clear F' N'; intro h' t' tk' F' N'))
local macro_rules | `(tactic| walk_at "call builtin:str.zfill") => `(tactic| (refine zfill_br ?_; intro t' tk'))
local macro_rules | `(tactic| walk_at "call type:int") => `(tactic| (refine call_int2 (bt_bin (by omega) (by omega)) ?_; intro t'))
theorem k_le {i M : Int} (h1 : i < 0 + ((M - 0).toNat : Int)) (h0 : 0 ≤ M) (h2 : M ≤ 256) : 1 + i ≤ 256 := by omega
theorem min_M {prog : Program} {w : World} {A : Around} {E : Value → Shared → Prop} {s : Shared} {h₀ : Heap} {L : Addr} {m : Str → Option Value} {news : List (Addr × Obj)} {x : Int} {t u : Tok} {Q : Value → Shared → Prop} (hh : A.handled = none) (F : Fr h₀ L s.heap m) (N : News h₀ L s.heap news)
    (h : ∀ h' tk t' M, Fr h₀ L h' m → News h₀ L h' news → 0 ≤ M → M ≤ 256 → Q (.int M t') { s with heap := h', toks := tk }) :
    wpAny (model prog w) A (call (.builtin "min") [.int (Int.fmod x 300) t, .int 256 u]) Q E s := by
  have h0 : 0 ≤ Int.fmod x 300 := Int.fmod_nonneg_of_pos x (by decide)
  refine min_two_N hh F N fun h' tk F' N' => h h' tk _ _ F' N' ?_ ?_
  · split <;> omega
  · split <;> omega
local macro_rules | `(tactic| walk_at "call builtin:min") => `(tactic| (k_here; k_dflt (refine' min_M ?hh ?F ?N ?_; (case hh => exact rfl); (case F => k_asm); (case N => k_asm); intro h' tk' t' M' F' N' hM0 hM1); (try k_sweep)))
local macro_rules | `(tactic| walk_at "call ref") => `(tactic| (k_here; (with_reducible show wpAny _ _ (call (Value.ref 435) _) _ _ _); k_dflt (refine' wpAny_call (draw_core ?B ?F ?X ?T ?hA ?hf ?hke ?hh ?hu ?hroom (kst_newsOf ?N ?M) ?hl ?hI ?hn ?hk0 ?hk1 ?_); (case hA => exact rfl); (case hf => exact rfl); (case hke => exact rfl); (case hh => exact rfl); (case B => k_asm); (case F => k_asm); (case X => k_asm); (case T => k_asm); (case hu => exact Nat.le_of_ble_eq_true rfl); (case hroom => exact Nat.le_of_ble_eq_true rfl); (case N => k_asm); (case M => exact fun p hp => nomatch hp); (case hl => assumption); (case hI => assumption); (case hn => omega); (case hk0 => omega); (case hk1 => first | exact k_le (by with_reducible assumption) (by with_reducible assumption) (by with_reducible assumption) | omega); intro h' tk' t' st'); (rename Fr _ _ _ _ => F9); (rename News _ _ _ _ => N9); (have F' := Fr.stay F9 st'); (have N' := news_stay N9 st'); clear F9 N9; (try dsimp only)))
theorem row_facts {ws : List Value} {ns : List Int} {M : Int} (h : IntsAre ws (rowL ns M)) (hL : PyData.layable0 (.list (ns.map .int)) = true) (h0 : 0 ≤ M) (h1 : M ≤ 256) : ∃ row, IntsAre ws row ∧ row.length = 256 ∧ AllSz 4000000 row := ⟨_, h, row_len h0 h1, row_sz hL h0 h1⟩
local macro_rules | `(tactic| walk_at "binaryOp Mult int int") => `(tactic| (k_dflt (refine mul_sz (by (first | exact AllSz.at (by with_reducible assumption) _ | exact Sz.mul (AllSz.at (by with_reducible assumption) _) (AllSz.at (by with_reducible assumption) _))) (by (first | exact AllSz.at (by with_reducible assumption) _ | exact Sz.mul (AllSz.at (by with_reducible assumption) _) (AllSz.at (by with_reducible assumption) _))) (by decide) ?_)))
local macro_rules | `(tactic| walk_at "subscriptTail") => `(tactic| (k_here; (with_reducible show wpAny _ _ (subscriptTail _ _ (Value.ref _) (Value.int _ _)) _ _ _); (with_unfolding_all refine' item_int ?k1 ?k2 ?k3 ?k4 ?k5 ?k6 ?k7 ?k8 ?_ ?k9 ?k10); (case k1 => k_asm); (case k2 => k_dflt k_mem); (case k5 => k_dflt rfl); (case k3 => with_reducible assumption); (case k4 => k_dflt rfl); (case k6 => omega); (case k7 => omega); (case k8 => omega); (case k9 => with_unfolding_all rfl); (case k10 => (intro _; with_unfolding_all rfl)); intro st'))
local macro_rules | `(tactic| walk_at "inplaceOp Add ref ref") => `(tactic| (k_here; k_dflt (refine' iadd_list ?F ?N ?b ?ne ?U ?z ?_; (case F => k_asm); (case N => k_asm); (case b => k_mem); (case U => k_upd); (case ne => (simp only [List.length_cons]; omega)); (case z => (simp only [List.length_cons, List.length_nil]; omega))); intro h' F' N'; (try k_sweep)))
theorem len_of {ws : List Value} {row : List Int} (h : IntsAre ws row) (la : row.length = 256) : ws.length = 256 := by rw [h.length, la]
theorem isPow_of_len {row : List Int} (_ : row.length = 256) : IsPow row row 1 := isPow_one row
local macro_rules | `(tactic| walk_at "callWith") => `(tactic| (k_here; k_dflt (refine' own_callKW ?k1 ?k2 ?k3 ?k4 ?_; (case k1 => k_in); (case k2 => k_inst); (case k3 => rfl); (case k4 => exact rfl); k_whole)))
local macro_rules | `(tactic| walk_at "call builtin:len") => `(tactic| (k_here; k_dflt (refine' len256 ?k1 ?k2 ?k3 ?_; (case k1 => k_asm); (case k2 => k_memK); (case k3 => with_reducible assumption))))
local macro_rules | `(tactic| walk_at "call builtin:isinstance") => `(tactic| (k_here; k_dflt (refine' isi_call ?k1 ?k2 ?k3 ?k4 ?_; (case k1 => k_in); (case k2 => k_types); (case k3 => k_is); (case k4 => intro e; cases e); k_whole)))
section
variable {prog : Program} {w : World} {A : Around} {E : Value → Shared → Prop} {s : Shared} {h₀ : Heap} {L a b : Addr} {news : List (Addr × Obj)} {oa ob : Obj} {vs us : List Value} {c : List Int} {n1 n2 : Nat} {Q : Value → Shared → Prop}
theorem ne_same (N : News h₀ L s.heap news) (ha : (a, oa) ∈ news) (hca : oa.cls = .type "list") (hda : oa.data = .seq vs.toArray n1) (ia : IntsAre vs c) (hb : (b, ob) ∈ news) (hcb : ob.cls = .type "list") (hdb : ob.data = .seq us.toArray n2) (ib : IntsAre us c) (hu : A.units + 64 < cLine)
    (h : Q (.bool false) s) : wpAny (model prog w) A (compareOp .NotEq (.ref a) (.ref b)) Q E s :=
  ne_intsK ⟨oa, (N _ ha).1, hca, n1, hda⟩ ia ⟨ob, (N _ hb).1, hcb, n2, hdb⟩ ib hu (by simpa using h)
theorem eq_same (N : News h₀ L s.heap news) (ha : (a, oa) ∈ news) (hca : oa.cls = .type "list") (hda : oa.data = .seq vs.toArray n1) (ia : IntsAre vs c) (hb : (b, ob) ∈ news) (hcb : ob.cls = .type "list") (hdb : ob.data = .seq us.toArray n2) (ib : IntsAre us c) (hu : A.units + 64 < cLine)
    (h : Q (.bool true) s) : wpAny (model prog w) A (compareOp .Eq (.ref a) (.ref b)) Q E s :=
  eq_intsK ⟨oa, (N _ ha).1, hca, n1, hda⟩ ia ⟨ob, (N _ hb).1, hcb, n2, hdb⟩ ib hu (by simpa using h)
end
local macro_rules | `(tactic| walk_at "compareOp NotEq ref ref") => `(tactic| (k_here; k_dflt (refine' ne_same ?N ?ha ?hca ?hda ?ia ?hb ?hcb ?hdb ?ib ?hu ?_; (case N => k_asm); (case ha => k_memK); (case hca => rfl); (case hda => rfl); (case ia => with_reducible assumption); (case hb => k_memK); (case hcb => rfl); (case hdb => rfl); (case ib => with_reducible assumption); (case hu => exact Nat.le_of_ble_eq_true rfl))))
local macro_rules | `(tactic| walk_at "compareOp Eq ref ref") => `(tactic| (k_here; k_dflt (refine' eq_same ?N ?ha ?hca ?hda ?ia ?hb ?hcb ?hdb ?ib ?hu ?_; (case N => k_asm); (case ha => k_memK); (case hca => rfl); (case hda => rfl); (case ia => with_reducible assumption); (case hb => k_memK); (case hcb => rfl); (case hdb => rfl); (case ib => with_reducible assumption); (case hu => exact Nat.le_of_ble_eq_true rfl))))
theorem twice_is {row : List Int} {vs : List Value} (la : row.length = 256) (h : IntsAre vs (addL (mapL (raisedT row) (rangeKs 0 128)) row)) : IntsAre vs (mapL (twiceT row) (rangeKs 0 128)) := by
  have e : addL (mapL (raisedT row) (rangeKs 0 128)) row = mapL (twiceT row) (rangeKs 0 128) := twice_ok la
  rw [e] at h
  exact h
theorem norms_is {row : List Int} {vs : List Value} (h : IntsAre vs (coefL zetaL row (mapL (raisedT row) (rangeKs 0 128)) (rangeKs 0 64))) : IntsAre vs (mapL (normsT row rootsL) (rangeKs 0 128)) := by
  rw [norms_ok row] at h
  exact h
structure Kept (T : Prop) : Prop where
  get : T
noncomputable def st1 : (T : Prop) ×' (Kept T → HdArg Mine.hd) := by
  refine' ⟨_, fun hT9 => ?_⟩
  rotate_left
  focus
    unfold HdArg
    w_strict (k_go0; (all_goals try k_fold); (repeat' ((fail_if_success (with_reducible show wpAny _ _ (call (Value.ref 440) _) _ _ _)); (fail_if_success (with_reducible show LCg.CompRest _ _ _ _ _ _ _ _ _ _ _ _ _ _ _ _ _ _ _)); (fail_if_success (with_reducible show wpAny _ _ (pyIter (Value.ref _)) _ _ _)); (fail_if_success (with_reducible show InvEndN _ _ _ _ _ _ _)); (fail_if_success (with_reducible show InvPostN _ _ _ _ _ _ _ _ _)); (first | (k_unfold; (try dsimp only)) | (k_end; wrow_close) | walk1 | (dsimp only; walk1) | (leave1; walk_say "STEP leave1"; try dsimp only) | fail "no step"))); ((k_here; refine' wpAny_call (roots_core ?B ?F ?X ?T ?hA ?hf ?hke ?hh ?hu ?hroom (kst_newsOf ?N ?M) ?_); (case hA => exact rfl); (case hf => exact rfl); (case hke => exact rfl); (case hh => exact rfl); (case B => k_asm); (case F => k_asm); (case X => k_asm); (case T => k_asm); (case hu => exact Nat.le_of_ble_eq_true rfl); (case hroom => exact Nat.le_of_ble_eq_true rfl); (case N => k_asm); (case M => exact fun p hp => nomatch hp); intro h' tk' vs' l' st' g1' g2' I'; (rename Fr _ _ _ _ => F9); (rename News _ _ _ _ => N9); (have F' := Fr.stay F9 st'); (have N' := news_add F9 N9 st' g1' g2'); clear F9 N9; (try dsimp only))); (repeat' ((fail_if_success (with_reducible show wpAny _ _ (call (Value.ref 440) _) _ _ _)); (fail_if_success (with_reducible show LCg.CompRest _ _ _ _ _ _ _ _ _ _ _ _ _ _ _ _ _ _ _)); (fail_if_success (with_reducible show wpAny _ _ (pyIter (Value.ref _)) _ _ _)); (fail_if_success (with_reducible show InvEndN _ _ _ _ _ _ _)); (fail_if_success (with_reducible show InvPostN _ _ _ _ _ _ _ _ _)); (first | (k_unfold; (try dsimp only)) | (k_end; wrow_close) | walk1 | (dsimp only; walk1) | (leave1; walk_say "STEP leave1"; try dsimp only) | fail "no step"))); (repeat ((with_reducible rename ((@Ne Nat _ _) ∧ _) => z9); clear z9)))
    (have ys := True.intro); (have hP := True.intro); (have e := True.intro); (have c := True.intro); (have t := True.intro); (have d := True.intro); (have N₁ := True.intro); (have F₁ := True.intro); (have hp3 := True.intro); (have hp2 := True.intro); (have hp1 := True.intro); (have hf3 := True.intro); (have hf2 := True.intro); (have hf1 := True.intro); (have R' := True.intro); (have S' := True.intro); (have lc' := True.intro); (have I' := True.intro); (have P' := True.intro); (have e' := True.intro); (have R'' := True.intro); (have g3' := True.intro); (have g2' := True.intro); (have g1' := True.intro); (have f3' := True.intro); (have f2' := True.intro); (have f1' := True.intro); (have st' := True.intro); (have Rc := True.intro); (have Scc := True.intro); (have lc := True.intro); (have Ic := True.intro); (have Pc := True.intro); (have Itw := True.intro); (have Inm := True.intro); (have N'' := True.intro); (have N' := True.intro); (have F' := True.intro); (have lN := True.intro); (have lF := True.intro); (have P1 := True.intro); (have hw := True.intro); (have la := True.intro); (have Ir := True.intro); (have Sr := True.intro); (have Iz := True.intro); (have lz := True.intro); (have Sc := True.intro); (have lr := True.intro); (have Srt := True.intro); (have hRow := True.intro); (have hLay := True.intro); (have hM1 := True.intro); (have hM0 := True.intro); (have rg := True.intro); (have kMk := True.intro); (have row := True.intro); (have v1 := True.intro); (have v2 := True.intro); (have v3 := True.intro); (have o1 := True.intro); (have o2 := True.intro); (have o3 := True.intro); (have n1 := True.intro); (have n2 := True.intro); (have n3 := True.intro); (have u := True.intro); (have tk := True.intro); (have h := True.intro); (have nl' := True.intro); (have l' := True.intro); (have vs' := True.intro); (have v2' := True.intro); (have v1' := True.intro); (have d' := True.intro); (have dx' := True.intro); (have x' := True.intro); (have tk' := True.intro); (have h' := True.intro)
    iterate 6 (iterate 400 (first | (rename_i zz9; revert zz9) | skip))
    exact hT9.get
noncomputable def st2 : (T : Prop) ×' (Kept T → HdArg Mine.hd) := by
  refine' ⟨_, fun hT9 => ?_⟩
  rotate_left
  focus
    w_top off
    refine st1.2 ⟨?_⟩
    unfold st1
    intro _
    intros
    (with_reducible rename IntsAre _ (_ ++ _) => hRow)
    (with_reducible rename PyData.layable0 (PyData.list (List.map PyData.int _)) = true => hLay)
    (with_reducible rename (_ ≤ (256 : Int)) => hM1)
    (with_reducible rename ((0 : Int) ≤ _) => hM0)
    obtain ⟨row, Ir, la, Sr⟩ := row_facts hRow hLay hM0 hM1
    clear hRow
    (with_reducible rename IntsAre _ (List.map (fun k' => pw17 (brF k')) _) => hZ)
    have Iz : IntsAre _ zetaL := hZ
    clear hZ
    have lz := zetaL_len
    have Sc := zetaL_sz
    have lr := rootsL_len
    have Srt := rootsL_sz
    rename News _ _ _ _ => lN0
    have lN := news_pickA lN0
    clear lN0
    rename Fr _ _ _ _ => lF
    rename IsRange _ _ _ _ _ _ _ _ => rg
    have kMk := kstMark
    with_unfolding_all refine' kst_range (σ := (List Value × List Int × Nat) × (List Value × List Int × Nat) × (List Value × List Int × Nat)) (fun c => (_, listOf c.2.2.1.toArray c.2.2.2.2) :: (_, listOf c.2.1.1.toArray c.2.1.2.2) :: (_, listOf c.1.1.toArray c.1.2.2) :: _) (fun c => [(Str.ofString "raised", Value.ref _), (Str.ofString "twice", Value.ref _), (Str.ofString "norms", Value.ref _)]) (fun c => IntsAre c.1.1 c.1.2.1 ∧ IntsAre c.2.1.1 c.2.1.2.1 ∧ IntsAre c.2.2.1 c.2.2.2.1) [Str.ofString "a", Str.ofString "b", Str.ofString "raised", Str.ofString "twice", Str.ofString "norms"] (fun pre c => c.1.2.1 = mapL (raisedT row) pre ∧ c.2.1.2.1 = mapL (twiceT row) pre ∧ c.2.2.2.1 = mapL (normsT row rootsL) pre) (([], [], 0), ([], [], 0), ([], [], 0)) (by rfl) rg (by decide) (by rfl) lF lN ?kf ?kk ?kp ?turn ?_
    case kf => exact ⟨.nil, .nil, .nil⟩
    case kk => kst_all
    case kp => exact ⟨rfl, rfl, rfl⟩
    case turn =>
      clear lF lN
      rintro ⟨⟨v1, o1, n1⟩, ⟨v2, o2, n2⟩, ⟨v3, o3, n3⟩⟩ pre k t u h tk own hkeq hlt hoff hf hp F₁ N₁
      dsimp only at hf hp F₁ N₁
      obtain ⟨hf1, hf2, hf3⟩ := hf
      obtain ⟨hp1, hp2, hp3⟩ := hp
      simp only [List.map_cons, List.map_nil] at hoff
      simp only [List.cons_append, List.nil_append] at N₁
      have hlt' : pre.length < 128 := hlt
      have hv1 : v1.length = 2 * pre.length := by rw [hf1.length, hp1, mapL_len2 _ (fun _ => rfl)]
      have hv2 : v2.length = 2 * pre.length := by rw [hf2.length, hp2, mapL_len2 _ (fun _ => rfl)]
      have hv3 : v3.length = 2 * pre.length := by rw [hf3.length, hp3, mapL_len2 _ (fun _ => rfl)]
      try k_fold
      (repeat' ((fail_if_success (with_reducible show wpAny _ _ (callWith _ (Value.ref _) _ _ _) _ _ _)); (fail_if_success (with_reducible show wpAny _ _ (binaryOp Operator.Mult (Value.ref _) (Value.ref _)) _ _ _)); (fail_if_success (with_reducible show wpAny _ _ (pyIter (Value.ref _)) _ _ _)); (fail_if_success (with_reducible show InvEndN _ _ _ _ _ _ _)); (fail_if_success (with_reducible show InvPostN _ _ _ _ _ _ _ _ _)); (first | (k_unfold; (try dsimp only)) | (k_end; wrow_close) | walk1 | (dsimp only; walk1) | (leave1; walk_say "STEP leave1"; try dsimp only) | fail "no step")))
      rename News _ _ _ _ => nE
      rename Fr _ _ _ _ => fE
      show InvEndN _ _ _ _ _ _ _
      refine' kst_end ((_, o1 ++ raisedT row k, n1 + 1), (_, o2 ++ twiceT row k, n2 + 1), (_, o3 ++ normsT row rootsL k, n3 + 1)) fE nE ?hn ?ho ?ha ?hf ?hk ?hr ?hp
      case hn => first | kst_in | kst_inAny
      case ha => rfl
      case ho => first | (intro p hp; kst_mem) | kst_anyIn
      case hf => exact ⟨IntsAre.append hf1 (.cons _ _ (.cons _ _ .nil)), IntsAre.append hf2 (.cons _ _ (.cons _ _ .nil)), IntsAre.append hf3 (.cons _ _ (.cons _ _ .nil))⟩
      case hk => kst_all
      case hr =>
        intro z h1 h2 h3
        simp only [List.contains_cons, List.contains_nil, Bool.or_false, Bool.or_eq_false_iff, beq_eq_false_iff_ne, ne_eq] at h3
        simp [h1, h3, kstB]
      case hp => exact ⟨by rw [hp1, mapL_snoc], by rw [hp2, mapL_snoc], by rw [hp3, mapL_snoc]⟩
    clear lF lN
    rintro ⟨⟨v1, o1, n1⟩, ⟨v2, o2, n2⟩, ⟨v3, o3, n3⟩⟩ u h tk hf hp F₁ N₁
    dsimp only at hf hp F₁ N₁
    obtain ⟨hf1, hf2, hf3⟩ := hf
    obtain ⟨hp1, hp2, hp3⟩ := hp
    subst hp1 hp2 hp3
    (repeat' ((fail_if_success (with_reducible show wpAny _ _ (callWith _ (Value.ref _) _ _ _) _ _ _)); (fail_if_success (with_reducible show wpAny _ _ (binaryOp Operator.Mult (Value.ref _) (Value.ref _)) _ _ _)); (fail_if_success (with_reducible show wpAny _ _ (pyIter (Value.ref _)) _ _ _)); (fail_if_success (with_reducible show InvEndN _ _ _ _ _ _ _)); (fail_if_success (with_reducible show InvPostN _ _ _ _ _ _ _ _ _)); (first | (k_unfold; (try dsimp only)) | (k_end; wrow_close) | walk1 | (dsimp only; walk1) | (leave1; walk_say "STEP leave1"; try dsimp only) | fail "no step")))
    (have ys := True.intro); (have hP := True.intro); (have e := True.intro); (have c := True.intro); (have t := True.intro); (have d := True.intro); (have N₁ := True.intro); (have F₁ := True.intro); (have hp3 := True.intro); (have hp2 := True.intro); (have hp1 := True.intro); (have hf3 := True.intro); (have hf2 := True.intro); (have hf1 := True.intro); (have R' := True.intro); (have S' := True.intro); (have lc' := True.intro); (have I' := True.intro); (have P' := True.intro); (have e' := True.intro); (have R'' := True.intro); (have g3' := True.intro); (have g2' := True.intro); (have g1' := True.intro); (have f3' := True.intro); (have f2' := True.intro); (have f1' := True.intro); (have st' := True.intro); (have Rc := True.intro); (have Scc := True.intro); (have lc := True.intro); (have Ic := True.intro); (have Pc := True.intro); (have Itw := True.intro); (have Inm := True.intro); (have N'' := True.intro); (have N' := True.intro); (have F' := True.intro); (have lN := True.intro); (have lF := True.intro); (have P1 := True.intro); (have hw := True.intro); (have la := True.intro); (have Ir := True.intro); (have Sr := True.intro); (have Iz := True.intro); (have lz := True.intro); (have Sc := True.intro); (have lr := True.intro); (have Srt := True.intro); (have hRow := True.intro); (have hLay := True.intro); (have hM1 := True.intro); (have hM0 := True.intro); (have rg := True.intro); (have kMk := True.intro); (have row := True.intro); (have v1 := True.intro); (have v2 := True.intro); (have v3 := True.intro); (have o1 := True.intro); (have o2 := True.intro); (have o3 := True.intro); (have n1 := True.intro); (have n2 := True.intro); (have n3 := True.intro); (have u := True.intro); (have tk := True.intro); (have h := True.intro); (have nl' := True.intro); (have l' := True.intro); (have vs' := True.intro); (have v2' := True.intro); (have v1' := True.intro); (have d' := True.intro); (have dx' := True.intro); (have x' := True.intro); (have tk' := True.intro); (have h' := True.intro)
    iterate 6 (iterate 400 (first | (rename_i zz9; revert zz9) | skip))
    exact hT9.get
noncomputable def st3 : (T : Prop) ×' (Kept T → HdArg Mine.hd) := by
  refine' ⟨_, fun hT9 => ?_⟩
  rotate_left
  focus
    w_top off
    refine st2.2 ⟨?_⟩
    unfold st2
    intro _
    intros
    rename News _ _ _ _ => lN0
    have lN := news_pickB lN0
    clear lN0
    (with_reducible rename List.length _ = 256 => la)
    have hw := len_of (by with_reducible assumption) la
    (repeat' ((fail_if_success (with_reducible show wpAny _ _ (exec (Stmt.Assign [Expr.Name _ _] (Expr.BinOp (Expr.Name _ _) Operator.Mult (Expr.Name _ _) _) _) _) _ _ _)); (fail_if_success (with_reducible show wpAny _ _ (call (Value.ref 423) _) _ _ _)); (first | (k_unfold; (try dsimp only)) | (k_end; wrow_close) | walk1 | (dsimp only; walk1) | (leave1; walk_say "STEP leave1"; try dsimp only) | fail "no step")))
    have P1 := isPow_of_len la
    (((refine' wpAny_call (mul_core ?B ?F ?X ?T ?hA ?hf ?hke ?hh ?hu ?hroom (kst_newsOf ?N ?M) ?Ix ?Iy ?Iz ?la ?lb ?lz ?Sa ?Sb ?Sc ?_)); (case hA => exact rfl); (case hf => exact rfl); (case hke => exact rfl); (case hh => exact rfl); (case B => k_asm); (case F => k_asm); (case X => k_asm); (case T => k_asm); (case hu => exact Nat.le_of_ble_eq_true rfl); (case hroom => exact Nat.le_of_ble_eq_true rfl); (case N => k_asm); (case M => (((repeat' (first | exact List.forall_mem_nil _ | refine' List.forall_mem_cons.mpr ⟨?_, ?_⟩)) <;> k_memK))); (case Ix => with_reducible assumption); (case Iy => with_reducible assumption); (case Iz => with_reducible assumption); (case la => with_reducible assumption); (case lb => with_reducible assumption); (case lz => with_reducible assumption); (case Sa => with_reducible assumption); (case Sb => with_reducible assumption); (case Sc => with_reducible assumption); (intro h' tk' vs' nl' l' dx' x' v1' v2' st' g1' g2' g3' f1' f2' f3' I'); (obtain ⟨c, Pc, Ic, lc, Scc, Rc⟩ := mul_pow I' (by with_reducible assumption) (by with_reducible assumption)); clear I'; (rename Fr _ _ _ _ => F9); (rename News _ _ _ _ => N9); (have F' := Fr.stay F9 st'); (have N' := news_add3 F9 N9 st' g1' g2' g3' f1' f2' f3'); clear F9 N9 g1' g2' g3' f1' f2' f3' st'; (try dsimp only); (try unfold PySem.W.CmpBack); (try dsimp only)))
    (repeat' ((fail_if_success (with_reducible show wpAny _ _ (exec (Stmt.Assign [Expr.Name _ _] (Expr.BinOp (Expr.Name _ _) Operator.Mult (Expr.Name _ _) _) _) _) _ _ _)); (fail_if_success (with_reducible show wpAny _ _ (call (Value.ref 423) _) _ _ _)); (first | (k_unfold; (try dsimp only)) | (k_end; wrow_close) | walk1 | (dsimp only; walk1) | (leave1; walk_say "STEP leave1"; try dsimp only) | fail "no step")))
    (((((refine' wpAny_call (mul_core ?B ?F ?X ?T ?hA ?hf ?hke ?hh ?hu ?hroom (kst_newsOf ?N ?M) ?Ix ?Iy ?Iz ?la ?lb ?lz ?Sa ?Sb ?Sc ?_)); (case hA => exact rfl); (case hf => exact rfl); (case hke => exact rfl); (case hh => exact rfl); (case B => k_asm); (case F => k_asm); (case X => k_asm); (case T => k_asm); (case hu => exact Nat.le_of_ble_eq_true rfl); (case hroom => exact Nat.le_of_ble_eq_true rfl); (case N => k_asm); (case M => (((repeat' (first | exact List.forall_mem_nil _ | refine' List.forall_mem_cons.mpr ⟨?_, ?_⟩)) <;> k_memK))); (case Ix => with_reducible assumption); (case Iy => with_reducible assumption); (case Iz => with_reducible assumption); (case la => with_reducible assumption); (case lb => with_reducible assumption); (case lz => with_reducible assumption); (case Sa => with_reducible assumption); (case Sb => with_reducible assumption); (case Sc => with_reducible assumption); (intro h' tk' vs' nl' l' dx' x' v1' v2' st' g1' g2' g3' f1' f2' f3' I'); (obtain ⟨c, Pc, Ic, lc, Scc, Rc⟩ := mul_pow I' (by with_reducible assumption) (by with_reducible assumption)); clear I'; (rename Fr _ _ _ _ => F9); (rename News _ _ _ _ => N9); (have F' := Fr.stay F9 st'); (have N' := news_add3 F9 N9 st' g1' g2' g3' f1' f2' f3'); clear F9 N9 g1' g2' g3' f1' f2' f3' st'; (try dsimp only); (try unfold PySem.W.CmpBack); (try dsimp only))); (rename News _ _ _ _ => N9); first | (have N' := news_skip N9; clear N9) | (have N' := news_skip1 N9; clear N9)))
    (repeat' ((fail_if_success (with_reducible show wpAny _ _ (exec (Stmt.Assign [Expr.Name _ _] (Expr.BinOp (Expr.Name _ _) Operator.Mult (Expr.Name _ _) _) _) _) _ _ _)); (fail_if_success (with_reducible show wpAny _ _ (call (Value.ref 423) _) _ _ _)); (first | (k_unfold; (try dsimp only)) | (k_end; wrow_close) | walk1 | (dsimp only; walk1) | (leave1; walk_say "STEP leave1"; try dsimp only) | fail "no step")))
    (((rename Fr _ _ _ _ => F9); (rename News _ _ _ _ => N9); k_dflt (refine' pow_step ?B F9 ?X ?T ?hA ?hks ?hh ?hu ?hroom ?va ?vb ?ka ?kb ?kt ?da ?db N9 ?M ?Pa ?Pb ?Ix ?Iy ?Iz ?la ?lb ?Sa ?Sb ?_); (case hA => exact rfl); (case hks => exact rfl); (case hh => exact rfl); (case B => k_asm); (case X => k_asm); (case T => k_asm); (case hu => exact Nat.le_of_ble_eq_true rfl); (case hroom => exact Nat.le_of_ble_eq_true rfl); (case va => k_dflt rfl); (case vb => k_dflt rfl); (case ka => k_dflt rfl); (case kb => k_dflt rfl); (case kt => k_dflt rfl); (case da => decide); (case db => decide); (case M => (((repeat' (first | exact List.forall_mem_nil _ | refine' List.forall_mem_cons.mpr ⟨?_, ?_⟩)) <;> k_memK))); (case Ix => with_reducible assumption); (case Iy => with_reducible assumption); (case Iz => with_reducible assumption); (case Pa => with_reducible assumption); (case Pb => with_reducible assumption); (case la => with_reducible assumption); (case lb => with_reducible assumption); (case Sa => with_reducible assumption); (case Sb => with_reducible assumption); (intro h' tk' x' d' l' v1' v2' vs' nl' e' F' N' P' I' lc' S' R'); clear F9 N9; first | (have N'' := news_skip N'; clear N') | (have N'' := news_skip1 N'; clear N') | skip))
    (repeat' ((fail_if_success (with_reducible show wpAny _ _ (exec (Stmt.Assign [Expr.Name _ _] (Expr.BinOp (Expr.Name _ _) Operator.Mult (Expr.Name _ _) _) _) _) _ _ _)); (fail_if_success (with_reducible show wpAny _ _ (call (Value.ref 423) _) _ _ _)); (first | (k_unfold; (try dsimp only)) | (k_end; wrow_close) | walk1 | (dsimp only; walk1) | (leave1; walk_say "STEP leave1"; try dsimp only) | fail "no step")))
    (((((refine' wpAny_call (mul_core ?B ?F ?X ?T ?hA ?hf ?hke ?hh ?hu ?hroom (kst_newsOf ?N ?M) ?Ix ?Iy ?Iz ?la ?lb ?lz ?Sa ?Sb ?Sc ?_)); (case hA => exact rfl); (case hf => exact rfl); (case hke => exact rfl); (case hh => exact rfl); (case B => k_asm); (case F => k_asm); (case X => k_asm); (case T => k_asm); (case hu => exact Nat.le_of_ble_eq_true rfl); (case hroom => exact Nat.le_of_ble_eq_true rfl); (case N => k_asm); (case M => (((repeat' (first | exact List.forall_mem_nil _ | refine' List.forall_mem_cons.mpr ⟨?_, ?_⟩)) <;> k_memK))); (case Ix => with_reducible assumption); (case Iy => with_reducible assumption); (case Iz => with_reducible assumption); (case la => with_reducible assumption); (case lb => with_reducible assumption); (case lz => with_reducible assumption); (case Sa => with_reducible assumption); (case Sb => with_reducible assumption); (case Sc => with_reducible assumption); (intro h' tk' vs' nl' l' dx' x' v1' v2' st' g1' g2' g3' f1' f2' f3' I'); (obtain ⟨c, Pc, Ic, lc, Scc, Rc⟩ := mul_pow I' (by with_reducible assumption) (by with_reducible assumption)); clear I'; (rename Fr _ _ _ _ => F9); (rename News _ _ _ _ => N9); (have F' := Fr.stay F9 st'); (have N' := news_add3 F9 N9 st' g1' g2' g3' f1' f2' f3'); clear F9 N9 g1' g2' g3' f1' f2' f3' st'; (try dsimp only); (try unfold PySem.W.CmpBack); (try dsimp only))); (rename News _ _ _ _ => N9); first | (have N' := news_skip N9; clear N9) | (have N' := news_skip1 N9; clear N9)))
    (repeat' ((fail_if_success (with_reducible show wpAny _ _ (exec (Stmt.Assign [Expr.Name _ _] (Expr.BinOp (Expr.Name _ _) Operator.Mult (Expr.Name _ _) _) _) _) _ _ _)); (fail_if_success (with_reducible show wpAny _ _ (call (Value.ref 423) _) _ _ _)); (first | (k_unfold; (try dsimp only)) | (k_end; wrow_close) | walk1 | (dsimp only; walk1) | (leave1; walk_say "STEP leave1"; try dsimp only) | fail "no step")))
    (((((refine' wpAny_call (mul_core ?B ?F ?X ?T ?hA ?hf ?hke ?hh ?hu ?hroom (kst_newsOf ?N ?M) ?Ix ?Iy ?Iz ?la ?lb ?lz ?Sa ?Sb ?Sc ?_)); (case hA => exact rfl); (case hf => exact rfl); (case hke => exact rfl); (case hh => exact rfl); (case B => k_asm); (case F => k_asm); (case X => k_asm); (case T => k_asm); (case hu => exact Nat.le_of_ble_eq_true rfl); (case hroom => exact Nat.le_of_ble_eq_true rfl); (case N => k_asm); (case M => (((repeat' (first | exact List.forall_mem_nil _ | refine' List.forall_mem_cons.mpr ⟨?_, ?_⟩)) <;> k_memK))); (case Ix => with_reducible assumption); (case Iy => with_reducible assumption); (case Iz => with_reducible assumption); (case la => with_reducible assumption); (case lb => with_reducible assumption); (case lz => with_reducible assumption); (case Sa => with_reducible assumption); (case Sb => with_reducible assumption); (case Sc => with_reducible assumption); (intro h' tk' vs' nl' l' dx' x' v1' v2' st' g1' g2' g3' f1' f2' f3' I'); (obtain ⟨c, Pc, Ic, lc, Scc, Rc⟩ := mul_pow I' (by with_reducible assumption) (by with_reducible assumption)); clear I'; (rename Fr _ _ _ _ => F9); (rename News _ _ _ _ => N9); (have F' := Fr.stay F9 st'); (have N' := news_add3 F9 N9 st' g1' g2' g3' f1' f2' f3'); clear F9 N9 g1' g2' g3' f1' f2' f3' st'; (try dsimp only); (try unfold PySem.W.CmpBack); (try dsimp only))); (rename News _ _ _ _ => N9); first | (have N' := news_skip N9; clear N9) | (have N' := news_skip1 N9; clear N9)))
    (repeat' ((fail_if_success (with_reducible show wpAny _ _ (exec (Stmt.Assign [Expr.Name _ _] (Expr.BinOp (Expr.Name _ _) Operator.Mult (Expr.Name _ _) _) _) _) _ _ _)); (fail_if_success (with_reducible show wpAny _ _ (exec (Stmt.If _ _ _ _) _) _ _ _)); (first | (k_unfold; (try dsimp only)) | (k_end; wrow_close) | walk1 | (dsimp only; walk1) | (leave1; walk_say "STEP leave1"; try dsimp only) | fail "no step")))
    iterate 9 ((((rename Fr _ _ _ _ => F9); (rename News _ _ _ _ => N9); k_dflt (refine' pow_step ?B F9 ?X ?T ?hA ?hks ?hh ?hu ?hroom ?va ?vb ?ka ?kb ?kt ?da ?db N9 ?M ?Pa ?Pb ?Ix ?Iy ?Iz ?la ?lb ?Sa ?Sb ?_); (case hA => exact rfl); (case hks => exact rfl); (case hh => exact rfl); (case B => k_asm); (case X => k_asm); (case T => k_asm); (case hu => exact Nat.le_of_ble_eq_true rfl); (case hroom => exact Nat.le_of_ble_eq_true rfl); (case va => k_dflt rfl); (case vb => k_dflt rfl); (case ka => k_dflt rfl); (case kb => k_dflt rfl); (case kt => k_dflt rfl); (case da => decide); (case db => decide); (case M => (((repeat' (first | exact List.forall_mem_nil _ | refine' List.forall_mem_cons.mpr ⟨?_, ?_⟩)) <;> k_memK))); (case Ix => with_reducible assumption); (case Iy => with_reducible assumption); (case Iz => with_reducible assumption); (case Pa => with_reducible assumption); (case Pb => with_reducible assumption); (case la => with_reducible assumption); (case lb => with_reducible assumption); (case Sa => with_reducible assumption); (case Sb => with_reducible assumption); (intro h' tk' x' d' l' v1' v2' vs' nl' e' F' N' P' I' lc' S' R'); clear F9 N9; first | (have N'' := news_skip N'; clear N') | (have N'' := news_skip1 N'; clear N') | skip)); (repeat' ((fail_if_success (with_reducible show wpAny _ _ (exec (Stmt.Assign [Expr.Name _ _] (Expr.BinOp (Expr.Name _ _) Operator.Mult (Expr.Name _ _) _) _) _) _ _ _)); (fail_if_success (with_reducible show wpAny _ _ (exec (Stmt.If _ _ _ _) _) _ _ _)); (first | (k_unfold; (try dsimp only)) | (k_end; wrow_close) | walk1 | (dsimp only; walk1) | (leave1; walk_say "STEP leave1"; try dsimp only) | fail "no step"))))
    (have ys := True.intro); (have hP := True.intro); (have e := True.intro); (have c := True.intro); (have t := True.intro); (have d := True.intro); (have N₁ := True.intro); (have F₁ := True.intro); (have hp3 := True.intro); (have hp2 := True.intro); (have hp1 := True.intro); (have hf3 := True.intro); (have hf2 := True.intro); (have hf1 := True.intro); (have R' := True.intro); (have S' := True.intro); (have lc' := True.intro); (have I' := True.intro); (have P' := True.intro); (have e' := True.intro); (have R'' := True.intro); (have g3' := True.intro); (have g2' := True.intro); (have g1' := True.intro); (have f3' := True.intro); (have f2' := True.intro); (have f1' := True.intro); (have st' := True.intro); (have Rc := True.intro); (have Scc := True.intro); (have lc := True.intro); (have Ic := True.intro); (have Pc := True.intro); (have Itw := True.intro); (have Inm := True.intro); (have N'' := True.intro); (have N' := True.intro); (have F' := True.intro); (have lN := True.intro); (have lF := True.intro); (have P1 := True.intro); (have hw := True.intro); (have la := True.intro); (have Ir := True.intro); (have Sr := True.intro); (have Iz := True.intro); (have lz := True.intro); (have Sc := True.intro); (have lr := True.intro); (have Srt := True.intro); (have hRow := True.intro); (have hLay := True.intro); (have hM1 := True.intro); (have hM0 := True.intro); (have rg := True.intro); (have kMk := True.intro); (have row := True.intro); (have v1 := True.intro); (have v2 := True.intro); (have v3 := True.intro); (have o1 := True.intro); (have o2 := True.intro); (have o3 := True.intro); (have n1 := True.intro); (have n2 := True.intro); (have n3 := True.intro); (have u := True.intro); (have tk := True.intro); (have h := True.intro); (have nl' := True.intro); (have l' := True.intro); (have vs' := True.intro); (have v2' := True.intro); (have v1' := True.intro); (have d' := True.intro); (have dx' := True.intro); (have x' := True.intro); (have tk' := True.intro); (have h' := True.intro)
    iterate 6 (iterate 400 (first | (rename_i zz9; revert zz9) | skip))
    exact hT9.get
theorem walk : HdArg Mine.hd := by
  w_top off
  refine st3.2 ⟨?_⟩
  unfold st3
  intro _
  intros
  (with_reducible rename IsPow _ _ _ => hP)
  have hP' : IsPow _ _ 3329 := hP
  (with_reducible rename List.length _ = 256 => lc)
  (with_reducible rename Red _ => rc)
  obtain rfl := pow_raised hP' lc rc
  (repeat' ((fail_if_success (with_reducible show wpAny _ _ (call (Value.ref 411) _) _ _ _)); (fail_if_success (with_reducible show wpAny _ _ (call (Value.ref 397) _) _ _ _)); (first | (k_unfold; (try dsimp only)) | (k_end; wrow_close) | walk1 | (dsimp only; walk1) | (leave1; walk_say "STEP leave1"; try dsimp only) | fail "no step")))
  (((refine' wpAny_call (add_core ?B ?F ?X ?T ?hA ?hf ?hke ?hh ?hu ?hroom (kst_newsOf ?N ?M) ?Ix ?Iy ?Iz ?la ?lb ?lz ?Sa ?Sb ?Sc ?_)); (case hA => exact rfl); (case hf => exact rfl); (case hke => exact rfl); (case hh => exact rfl); (case B => k_asm); (case F => k_asm); (case X => k_asm); (case T => k_asm); (case hu => exact Nat.le_of_ble_eq_true rfl); (case hroom => exact Nat.le_of_ble_eq_true rfl); (case N => k_asm); (case M => (((repeat' (first | exact List.forall_mem_nil _ | refine' List.forall_mem_cons.mpr ⟨?_, ?_⟩)) <;> k_memK))); (case Ix => with_reducible assumption); (case Iy => with_reducible assumption); (case Iz => with_reducible assumption); (case la => with_reducible assumption); (case lb => with_reducible assumption); (case lz => with_reducible assumption); (case Sa => with_reducible assumption); (case Sb => with_reducible assumption); (case Sc => with_reducible assumption); (intro h' tk' vs' nl' l' dx' x' v1' v2' st' g1' g2' g3' f1' f2' f3' I'); (have Itw := twice_is (by with_reducible assumption) I'); clear I'; (rename Fr _ _ _ _ => F9); (rename News _ _ _ _ => N9); (have F' := Fr.stay F9 st'); (have N' := news_add3 F9 N9 st' g1' g2' g3' f1' f2' f3'); clear F9 N9 g1' g2' g3' f1' f2' f3' st'; (try dsimp only); (try unfold PySem.W.CmpBack); (try dsimp only)))
  (repeat' ((fail_if_success (with_reducible show wpAny _ _ (call (Value.ref 411) _) _ _ _)); (fail_if_success (with_reducible show wpAny _ _ (call (Value.ref 397) _) _ _ _)); (first | (k_unfold; (try dsimp only)) | (k_end; wrow_close) | walk1 | (dsimp only; walk1) | (leave1; walk_say "STEP leave1"; try dsimp only) | fail "no step")))
  (((refine' wpAny_call (coef_core ?B ?F ?X ?T ?hA ?hf ?hke ?hh ?hu ?hroom (kst_newsOf ?N ?M) ?Ix ?Iy ?Iz ?la ?lb ?lz ?Sa ?Sb ?Sc ?_)); (case hA => exact rfl); (case hf => exact rfl); (case hke => exact rfl); (case hh => exact rfl); (case B => k_asm); (case F => k_asm); (case X => k_asm); (case T => k_asm); (case hu => exact Nat.le_of_ble_eq_true rfl); (case hroom => exact Nat.le_of_ble_eq_true rfl); (case N => k_asm); (case M => (((repeat' (first | exact List.forall_mem_nil _ | refine' List.forall_mem_cons.mpr ⟨?_, ?_⟩)) <;> k_memK))); (case Ix => with_reducible assumption); (case Iy => with_reducible assumption); (case Iz => with_reducible assumption); (case la => with_reducible assumption); (case lb => with_reducible assumption); (case lz => with_reducible assumption); (case Sa => with_reducible assumption); (case Sb => with_reducible assumption); (case Sc => with_reducible assumption); (intro h' tk' vs' nl' l' st' g1' f1' I'); (have Inm := norms_is I'); clear I'; (rename Fr _ _ _ _ => F9); (rename News _ _ _ _ => N9); (have F' := Fr.stay F9 st'); (have N' := news_add F9 N9 st' g1' f1'); clear F9 N9 g1' f1' st'; (try dsimp only)))
  (repeat' ((fail_if_success (with_reducible show wpAny _ _ (call (Value.ref 411) _) _ _ _)); (fail_if_success (with_reducible show wpAny _ _ (call (Value.ref 397) _) _ _ _)); (first | (k_unfold; (try dsimp only)) | (k_end; wrow_close) | walk1 | (dsimp only; walk1) | (leave1; walk_say "STEP leave1"; try dsimp only) | fail "no step")))
end Mine
end
theorem PySem.Challenge.cw_yi0061_01_holds : PySem.Challenge.rw_yi0061_01.Holds :=
  Mine.hd Mine.walk
