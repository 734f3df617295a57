import PyProof.Rows.All
import Wide.All
import OpenK.AllK
import Wide.FinOn
import Lean
import PySem.Challenge.RW_sr0071_01
open PySem PySem.W PyProof.Rows
set_option Elab.async false
set_option maxRecDepth 100000
set_option maxHeartbeats 8000000
set_option linter.all false
set_option compiler.extract_closed false
set_option rowWalk.seconds 0
namespace Mine
noncomputable def pick : List Nat → List Stmt → List Stmt
  | [], _ => []
  | i :: r, l => match l.drop i with
    | [] => []
    | s :: _ => s :: pick r l
noncomputable def view : Program := { PySem.Challenge.pw_sr0071_01 with main := { PySem.Challenge.pw_sr0071_01.main with body := pick [0, 2, 3, 5, 6, 7, 8, 9, 10, 11, 13, 15, 16, 17] PySem.Challenge.pw_sr0071_01.main.body } }
theorem boots : ∀ w : World, (fencedOpening treeTable PySem.Challenge.pw_sr0071_01 w 2858).map (fun s => (s.heap, s.gens, s.drawn, s.toks)) = some (boot_heap w.params, Array.mk [], boot_drawn, boot_toks) :=
  boot_open (by kernel_rfl) (by kernel_rfl) (fun s => by kernel_rfl)
theorem left_of {q : Program} {loose : List Str} {Xt : Shared → Bool} {α : Type} {Yf : Shared → α} {Ya : World → α}
    (hf : ∀ (w : World) (os : OsState), (topFrom treeTable PySem.Challenge.pw_sr0071_01 (w.withFollow "special-get-raises" false) 2858 ⟨boot_heap (w.withFollow "special-get-raises" false).params, Array.mk [], boot_drawn, boot_toks, os⟩).map (fun s => (openSeen q loose (importedModules PySem.Challenge.pw_sr0071_01.main.body) Xt true s, Yf s)) = some (openGood q loose, Ya (w.withFollow "special-get-raises" false)))
    (ht : ∀ (w : World) (os : OsState), (topFrom treeTable PySem.Challenge.pw_sr0071_01 (w.withFollow "special-get-raises" true) 2858 ⟨boot_heap (w.withFollow "special-get-raises" true).params, Array.mk [], boot_drawn, boot_toks, os⟩).map (fun s => (openSeen q loose (importedModules PySem.Challenge.pw_sr0071_01.main.body) Xt true s, Yf s)) = some (openGood q loose, Ya (w.withFollow "special-get-raises" true))) :
    LeftO PySem.Challenge.pw_sr0071_01 q loose Xt Yf Ya 2858 := fun w => by
  refine byRow2 "special-get-raises" (P := fun w => (openEnds treeTable PySem.Challenge.pw_sr0071_01 w 2858).map (fun s => (openSeen q loose (importedModules PySem.Challenge.pw_sr0071_01.main.body) Xt true s, Yf s)) = some (openGood q loose, Ya w)) (fun w => ?_) (fun w => ?_) w
  · obtain ⟨⟨h, gs, d, k, os⟩, e, e'⟩ := Option.map_eq_some_iff.mp (boots (w.withFollow "special-get-raises" false))
    obtain ⟨rfl, rfl, rfl, rfl⟩ : h = boot_heap (w.withFollow "special-get-raises" false).params ∧ gs = Array.mk [] ∧ d = boot_drawn ∧ k = boot_toks := by simpa using e'
    unfold openEnds
    rw [e, Option.bind_some]
    exact hf w os
  · obtain ⟨⟨h, gs, d, k, os⟩, e, e'⟩ := Option.map_eq_some_iff.mp (boots (w.withFollow "special-get-raises" true))
    obtain ⟨rfl, rfl, rfl, rfl⟩ : h = boot_heap (w.withFollow "special-get-raises" true).params ∧ gs = Array.mk [] ∧ d = boot_drawn ∧ k = boot_toks := by simpa using e'
    unfold openEnds
    rw [e, Option.bind_some]
    exact ht w os
theorem said : OpenLaw.wellSaid PySem.Challenge.rw_sr0071_01 = true := by rw [PySem.W.Fast.te9446332074065402090]; kernel_rfl
section
local macro_rules | `(tactic| o_law) => `(tactic| refine holds_law Mine.said fun said => ?_)
local macro_rules | `(tactic| o_head $_H) => `(tactic| refine (fun (h : PySem.Challenge.rw_sr0071_01.row.Holds) (_ : True) => h) ?hc ?hw)
local macro_rules | `(tactic| w_witness2) => `(tactic| exact True.intro)
open_top hd0 for PySem.Challenge.rw_sr0071_01
end
noncomputable def hookA : List Addr := [2, 3, 15, 17, 18, 20, 21, 22, 25, 30, 31, 32, 34, 35, 37, 38, 39, 41, 42, 44, 45, 46, 47, 49, 50, 52, 53, 54, 56, 57, 59, 60, 61, 63, 64, 66, 67, 68, 70, 71, 73, 74, 75, 76, 78, 79, 81, 82, 83, 85, 86, 88, 89, 90, 92, 93, 95, 96, 97, 98, 99, 100, 101, 104, 106, 107, 109, 110, 111, 113, 114, 116, 117, 118, 120, 121, 123, 124, 125, 127, 128, 130, 131, 132, 134, 135, 137, 138, 139, 141, 142, 144, 145, 156, 158, 159, 161, 162, 163, 165, 166, 168, 169, 170, 172, 173, 175, 176, 177, 179, 180, 182, 183, 184, 186, 187, 189, 190, 191, 193, 194, 196, 197, 198, 200, 201, 203, 204, 205, 206, 207, 208, 209, 212, 215, 216, 217, 220, 221, 222, 225, 226]
theorem hookE : ∀ P, hookA = (hd0.heap_1 P).map (·.1) := fun _ => by kernel_rfl
noncomputable abbrev hook : Hook := kmHook hd0.heap_1 hookA hookE [126, 119, 69]
theorem leftF : ∀ (w : World) (os : OsState), (topFrom treeTable PySem.Challenge.pw_sr0071_01 (w.withFollow "special-get-raises" false) 2858 ⟨boot_heap (w.withFollow "special-get-raises" false).params, Array.mk [], boot_drawn, boot_toks, os⟩).map (fun s => (openSeen Mine.view [Str.ofString "_Accumulator", Str.ofString "Whitespace"] (importedModules PySem.Challenge.pw_sr0071_01.main.body) (fun s => xlAt Mine.view [] s && recOk (RowW.records (PySem.Challenge.rw_sr0071_01.row.toRowW)) s) true s, hook.obs s)) = some (openGood Mine.view [Str.ofString "_Accumulator", Str.ofString "Whitespace"], hook.val (w.withFollow "special-get-raises" false)) := by intro w os; delta topFrom; rw [PySem.W.Fast.te14082659384304107361, PySem.W.Fast.te14364793385576792824, PySem.W.Fast.te4187177175401517315]; kernel_rfl
theorem leftT : ∀ (w : World) (os : OsState), (topFrom treeTable PySem.Challenge.pw_sr0071_01 (w.withFollow "special-get-raises" true) 2858 ⟨boot_heap (w.withFollow "special-get-raises" true).params, Array.mk [], boot_drawn, boot_toks, os⟩).map (fun s => (openSeen Mine.view [Str.ofString "_Accumulator", Str.ofString "Whitespace"] (importedModules PySem.Challenge.pw_sr0071_01.main.body) (fun s => xlAt Mine.view [] s && recOk (RowW.records (PySem.Challenge.rw_sr0071_01.row.toRowW)) s) true s, hook.obs s)) = some (openGood Mine.view [Str.ofString "_Accumulator", Str.ofString "Whitespace"], hook.val (w.withFollow "special-get-raises" true)) := by intro w os; delta topFrom; rw [PySem.W.Fast.te14082659384304107361, PySem.W.Fast.te14364793385576792824, PySem.W.Fast.te4187177175401517315]; kernel_rfl
theorem opened {d : DefRec} {kwd : List (PySem.Str × PySem.Expr)} (h1 : defOf Mine.view PySem.Challenge.rw_sr0071_01.row.name = some (d, kwd)) (h2 : PySem.Challenge.rw_sr0071_01.row.prog.theDef PySem.Challenge.rw_sr0071_01.row.name = some (d.params, d.body, d.scope))
    (h3 : kwWritten? d.params.kwonlyargs d.params.kw_defaults = some kwd) (said : PySem.Challenge.rw_sr0071_01.row.wellSaid = true) (hw : PySem.Challenge.rw_sr0071_01.row.promised)
    (hc : WalkO Mine.view [Str.ofString "_Accumulator", Str.ofString "Whitespace"] (XL Mine.view []) (Hook.says (kmHook hd0.heap_1 Mine.hookA Mine.hookE [126, 119, 69])) PySem.Challenge.rw_sr0071_01.row.toRowW d kwd fun f vs => call f vs) : PySem.Challenge.rw_sr0071_01.row.Holds :=
  holds_open (q := Mine.view) (loose := [Str.ofString "_Accumulator", Str.ofString "Whitespace"]) (Xt := fun s => xlAt Mine.view [] s && recOk (RowW.records (PySem.Challenge.rw_sr0071_01.row.toRowW)) s) (XP := XL Mine.view []) (Yf := Hook.obs (kmHook hd0.heap_1 Mine.hookA Mine.hookE [126, 119, 69])) (Ya := Hook.val (kmHook hd0.heap_1 Mine.hookA Mine.hookE [126, 119, 69])) (YP := Hook.says (kmHook hd0.heap_1 Mine.hookA Mine.hookE [126, 119, 69])) (N := 2858) (Mine.left_of Mine.leftF Mine.leftT) (Hook.of (kmHook hd0.heap_1 Mine.hookA Mine.hookE [126, 119, 69])) (Hook.keeps (kmHook hd0.heap_1 Mine.hookA Mine.hookE [126, 119, 69])) (fun s e => xl_of s (Bool.and_eq_true_iff.mp e).1) XL.keeps h1 h2 h3 (fun s e => recFacts_of (Bool.and_eq_true_iff.mp e).2) (by rfl) said (by decide +kernel) ⟨rfl, rfl, rfl, rfl, rfl, by decide +kernel⟩ hw hc
section
local macro_rules | `(tactic| o_law) => `(tactic| refine holds_law Mine.said fun said => ?_)
local macro_rules | `(tactic| k_head) => `(tactic| refine Mine.opened (by rfl) (by rfl) (by rfl) (by assumption) ?hw ?hc)
open_top hd for PySem.Challenge.rw_sr0071_01
end
end Mine

namespace Mine
theorem kw_Base : True := (by k_with_none; w_top off; exact trivial)
section
open PySem PySem.W PyProof.Rows
open Lean Elab Tactic Meta
noncomputable abbrev PG : PySem.Program := PySem.Challenge.rw_sr0071_01.row.prog
noncomputable abbrev LS : List PySem.Str := looseW Mine.view [Str.ofString "_Accumulator", Str.ofString "Whitespace"] ++ (recsOf Mine.view).map (·.name) ++ (litsOf Mine.view).map (·.1) ++ (clssOf Mine.view (looseW Mine.view [Str.ofString "_Accumulator", Str.ofString "Whitespace"])).map (·.name)
noncomputable abbrev tupO (vs : List PySem.Value) (n : Nat) : PySem.Obj := { cls := .type "tuple", data := .seq vs.toArray n }
noncomputable abbrev wsEs (P : PySem.Params) (t1 t2 t3 t4 t5 : Tok) (raw n nt norm simple : PySem.Value) : List DictEntry :=
  [⟨PyData.keyHash P "raw", .str "raw" t1, raw⟩, ⟨PyData.keyHash P "n", .str "n" t2, n⟩, ⟨PyData.keyHash P "nt", .str "nt" t3, nt⟩, ⟨PyData.keyHash P "norm", .str "norm" t4, norm⟩, ⟨PyData.keyHash P "is_simple", .str "is_simple" t5, simple⟩]
end
theorem kw_L1 : True := (by k_with_none; w_top off; exact trivial)
section
open PySem PySem.W PyProof.Rows
open Lean Elab Tactic Meta
theorem fill0 : PySem.Challenge.rw_sr0071_01 = PySem.Challenge.rw_sr0071_01 ∧ hd0.heap_1 = hd0.heap_1 := by k_fill; exact ⟨rfl, rfl⟩

/-- a Whitespace whose norm is (ns, 0), with nt tabs -/
noncomputable def WsAt (P : PySem.Params) (news : List (Addr × PySem.Obj)) (x : Addr) (ns : List Int) (nt : Int) : Prop :=
  ∃ (dx nr cr : Addr) (vs : List PySem.Value) (t1 t2 t3 t4 t5 tn tb : Tok) (raw n simple : PySem.Value) (e1 e2 : Nat),
    (x, instObj 207 dx) ∈ news ∧ (dx, dictOf (wsEs P t1 t2 t3 t4 t5 raw n (.int nt tn) (.ref nr) simple) 5) ∈ news ∧ (nr, tupO [.ref cr, .int 0 tb] e1) ∈ news ∧ (cr, tupO vs e2) ∈ news ∧ IntsAre vs ns ∧ ns.length ≤ 20
theorem WsAt.mono {P : PySem.Params} {news news' : List (Addr × PySem.Obj)} {x : Addr} {ns : List Int} {nt : Int} (h : WsAt P news x ns nt) (hs : ∀ p ∈ news, p ∈ news') : WsAt P news' x ns nt := by
  obtain ⟨dx, nr, cr, vs, t1, t2, t3, t4, t5, tn, tb, raw, n, simple, e1, e2, h1, h2, h3, h4, h5, h6⟩ := h
  exact ⟨dx, nr, cr, vs, t1, t2, t3, t4, t5, tn, tb, raw, n, simple, e1, e2, hs _ h1, hs _ h2, hs _ h3, hs _ h4, h5, h6⟩

section
variable {prog : PySem.Program} {w : World} {A : Around} {E : PySem.Value → Shared → Prop} {s : Shared} {h₀ : Heap} {L : Addr} {news : List (Addr × PySem.Obj)}
theorem len_tupM {l : Addr} {vs : List PySem.Value} {ns : List Int} {e : Nat} {Q : PySem.Value → Shared → Prop} (N : News h₀ L s.heap news) (hm : (l, tupO vs e) ∈ news) (hi : IntsAre vs ns) (hz : ns.length ≤ 16384) (h : Q (.int ns.length (s.toks + 1)) { s with toks := s.toks + 1 + 1 }) :
    wpAny (model prog w) A (call (.builtin "len") [.ref l]) Q E s :=
  PyProof.Rows.len_tuple (News.isTup N hm) (by rw [List.size_toArray, hi.length]; omega) (by rw [List.size_toArray, hi.length]; exact h)
theorem len_listM {l : Addr} {vs : List PySem.Value} {ns : List Int} {e : Nat} {Q : PySem.Value → Shared → Prop} (N : News h₀ L s.heap news) (hm : (l, listOf vs.toArray e) ∈ news) (hi : IntsAre vs ns) (hz : ns.length ≤ 16384) (h : Q (.int ns.length (s.toks + 1)) { s with toks := s.toks + 1 + 1 }) :
    wpAny (model prog w) A (call (.builtin "len") [.ref l]) Q E s :=
  PyProof.Rows.len_list (News.isList N hm) (by rw [List.size_toArray, hi.length]; omega) (by rw [List.size_toArray, hi.length]; exact h)
theorem item_tupM {value slice : PySem.Expr} {l : Addr} {vs : List PySem.Value} {ns : List Int} {e : Nat} {k : Int} {u : Tok} {Q : PySem.Value → Shared → Prop} (N : News h₀ L s.heap news) (hm : (l, tupO vs e) ∈ news) (hi : IntsAre vs ns)
    (h0 : 0 ≤ k) (h1 : k < ns.length) (hz : ns.length ≤ 16384) (h : ∀ t, Q (.int (ns.getD k.toNat 0) t) s)
    (hs : subscripted slice false (.ref l) (.int k u) = operate [.ref l, .int k u] (getItem (.ref l) (.int k u)) := by with_unfolding_all rfl) (hg : ∀ r, letTemporaryGo value (.ref l) r = pure () := by intro _; with_unfolding_all rfl) :
    wpAny (model prog w) A (subscriptTail value slice (.ref l) (.int k u)) Q E s :=
  PyProof.Rows.item_tuple_ints (News.isTup N hm) hi h0 h1 (by omega) h hs hg
end
theorem ne_cls {h₀ h : Heap} {L a b : Addr} {o o' : PySem.Obj} {news : List (Addr × PySem.Obj)} (N : News h₀ L h news) (h1 : (a, o) ∈ news) (h2 : (b, o') ∈ news) (hc : o.cls ≠ o'.cls) : a ≠ b := fun e => by
  subst e
  have := (N _ h1).1.symm.trans (N _ h2).1
  cases this
  exact hc rfl
theorem sub_cons {α : Type} {a : α} {t old : List α} (h : a ∈ old) (ht : ∀ p ∈ t, p ∈ old) : ∀ p ∈ a :: t, p ∈ old := List.forall_mem_cons.mpr ⟨h, ht⟩
theorem sub_nil {α : Type} {old : List α} : ∀ p ∈ ([] : List α), p ∈ old := fun _ h => nomatch h
theorem sub_app {α : Type} {s t old : List α} (hs : ∀ p ∈ s, p ∈ old) (ht : ∀ p ∈ t, p ∈ old) : ∀ p ∈ s ++ t, p ∈ old := fun p hp => (List.mem_append.mp hp).elim (hs p) (ht p)
theorem sub_of {α : Type} {p : α} {new old : List α} (hp : p ∈ new) (h : ∀ q ∈ new, q ∈ old) : p ∈ old := h p hp
theorem mem_head {α : Type} {a : α} {l : List α} : a ∈ a :: l := .head _
theorem mem_tail {α : Type} {a b : α} {l : List α} (h : a ∈ l) : a ∈ b :: l := .tail _ h
theorem mem_left {α : Type} {a : α} {s t : List α} (h : a ∈ s) : a ∈ s ++ t := List.mem_append_left _ h
theorem mem_right {α : Type} {a : α} {s t : List α} (h : a ∈ t) : a ∈ s ++ t := List.mem_append_right _ h
end
local macro_rules | `(tactic| walk_at "mem") => `(tactic| first | with_reducible assumption | with_reducible exact mem_head | (with_reducible refine mem_tail ?_; walk_at "mem") | (with_reducible refine mem_left ?_; walk_at "mem") | (with_reducible refine mem_right ?_; walk_at "mem"))
local macro_rules | `(tactic| walk_at "sub") => `(tactic| first | (with_reducible refine sub_cons ?mh ?mt; (case mh => walk_at "mem"); (case mt => walk_at "sub")) | (intro p hp; walk_at "mem") | (with_reducible refine sub_app ?_ ?_ <;> walk_at "sub") | exact sub_nil)
local macro_rules | `(tactic| walk_at "callWith ref") => `(tactic| (k_here; (with_reducible show wpAny _ _ (callWith _ _ _ (backTo _ (starEach (_ :: _) _)) _) _ _ _); k_dflt (refine' callWith_K ?wK1 ?wK2 ?_; (case wK1 => k_asm); (case wK2 => k_is); k_whole)))
local macro_rules | `(tactic| walk_at "callWith ref") => `(tactic| (k_here; (with_reducible show wpAny _ _ (callWith _ _ _ (backTo _ (starEach [] _)) _) _ _ _); k_dflt (refine' callWith_K0 ?wK3 ?wK4 ?_; (case wK3 => exact Frag.In.keeps (by k_asm) (Fr.keep (by k_asm))); (case wK4 => k_is); k_whole)))
local macro_rules | `(tactic| lcg_src) => `(tactic| exact Or.inr ⟨_, by k_mem, rfl, _, rfl⟩)
local macro_rules | `(tactic| k_ne) => `(tactic| first | (refine neN ?_; (try dsimp only); omega) | (refine neN ?_; (try dsimp only); exact ne_cls (by k_asm) (by k_mem) (by k_mem) (by first | (show PySem.Value.type _ ≠ PySem.Value.type _; decide) | (show PySem.Value.ref _ ≠ PySem.Value.type _; exact fun e => nomatch e) | (show PySem.Value.type _ ≠ PySem.Value.ref _; exact fun e => nomatch e))))
section
open PySem PySem.W PyProof.Rows
open Lean Elab Tactic Meta
theorem fdiv_rng {k ts : Int} (h1 : 1 ≤ ts) (h0 : 0 ≤ k) : 0 ≤ k.fdiv ts ∧ k.fdiv ts ≤ k := by
  rw [Int.fdiv_eq_ediv_of_nonneg _ (by omega)]
  exact ⟨Int.ediv_nonneg h0 (by omega), Int.ediv_le_self _ h0⟩
theorem mulOk_fdiv {k ts b : Int} (h1 : 1 ≤ ts) (h0 : 0 ≤ k) (h2 : k < 1000) : IntMulOk (k.fdiv ts) b :=
  PySem.IntMulOk.of_left (PySem.intBits_le_64 (by have := fdiv_rng h1 h0; omega) (by have := fdiv_rng h1 h0; omega))
end
local macro_rules | `(tactic| mul_fits) => `(tactic| exact mulOk_fdiv (by omega) (by omega) (by omega))
local macro_rules | `(tactic| walk_at "call builtin:len") => `(tactic| (k_here; (with_reducible show wpAny _ _ (call (Value.builtin "len") [Value.ref _]) _ _ _); k_dflt (refine' len_tupM (by k_asm) (by k_mem) (by assumption) (by omega) ?_; k_whole)))
local macro_rules | `(tactic| walk_at "call builtin:len") => `(tactic| (k_here; (with_reducible show wpAny _ _ (call (Value.builtin "len") [Value.ref _]) _ _ _); k_dflt (refine' len_listM (by k_asm) (by k_mem) (by assumption) (by omega) ?_; k_whole)))
local macro_rules | `(tactic| walk_at "subscriptTail") => `(tactic| (k_here; (with_reducible show wpAny _ _ (subscriptTail _ _ (Value.ref _) (Value.int _ _)) _ _ _); k_dflt (refine' item_tupM (by k_asm) (by k_mem) (by assumption) (by omega) (by omega) (by omega) ?_ (by with_unfolding_all rfl) (by intro _; with_unfolding_all rfl); k_whole; intro t')))
section
open PySem PySem.W PyProof.Rows
open Lean Elab Tactic Meta

theorem max_len (n : Nat) : (if (0 : Int) > (n : Int) - 1 then (0 : Int) else (n : Int) - 1) = (((n - 1 : Nat) : Int)) := by split <;> omega
section
variable {d : Addr} {a b : List (Addr × PySem.Obj)} {adr : List Addr}
theorem all_app (h1 : ∀ p ∈ a, p.1 ≠ d) (h2 : ∀ p ∈ b, p.1 ≠ d) : ∀ p ∈ a ++ b, p.1 ≠ d := fun p hp => (List.mem_append.mp hp).elim (h1 p) (h2 p)
theorem all_lt (h : ∀ p ∈ a, p.1 < d) : ∀ p ∈ a, p.1 ≠ d := fun p hp => Nat.ne_of_lt (h p hp)
theorem allLt_out : ∀ {l : List (Addr × PySem.Obj)}, AllLt d l → ∀ p ∈ l, p.1 < d
  | [], _, _, h => nomatch h
  | _ :: _, h, p, m => by
    rcases List.mem_cons.mp m with rfl | m
    · exact h.1
    · exact allLt_out h.2 _ m
end
noncomputable def witF (f g : Int → Int) (k : Int) : Option Dat := if f k = g k then none else some (Dat.tuple [.int k, .int (f k), .int (g k)])
noncomputable def witOf (n : Nat) (f g : Int → Int) : List Dat := (rangeKs 1 n).filterMap (witF f g)
theorem wit_yes {f g : Int → Int} {k : Int} {pre : List Int} (h : f k ≠ g k) : pre.filterMap (witF f g) ++ [Dat.tuple [.int k, .int (f k), .int (g k)]] = (pre ++ [k]).filterMap (witF f g) := by
  have e : witF f g k = some (Dat.tuple [.int k, .int (f k), .int (g k)]) := by unfold witF; rw [if_neg h]
  rw [List.filterMap_append, List.filterMap_cons, e, List.filterMap_nil]
theorem wit_no {f g : Int → Int} {k : Int} {pre : List Int} (h : f k = g k) : pre.filterMap (witF f g) = (pre ++ [k]).filterMap (witF f g) := by
  have e : witF f g k = none := by unfold witF; rw [if_pos h]
  rw [List.filterMap_append, List.filterMap_cons, e, List.filterMap_nil, List.append_nil]
end
local macro_rules | `(tactic| k_all) => `(tactic| first | assumption | exact all_lt (by assumption) | exact all_lt (allLt_out (by assumption)) | exact OwnOff.ne (by assumption) (List.Mem.head _) | (refine' all_app ?a ?b; (case a => k_all); (case b => k_all)))
local macro_rules | `(tactic| k_mem) => `(tactic| ((show @Membership.mem (Addr × PySem.Obj) (List (Addr × PySem.Obj)) _ _ _); ktr_member))
local macro_rules | `(tactic| is_list) => `(tactic| (k_here; k_dflt (exact News.isList (by k_asm) (by k_mem))))
local macro_rules | `(tactic| walk_at "subscriptTail") => `(tactic| (k_here; (with_reducible show wpAny _ _ (subscriptTail _ _ (Value.ref _) (Value.int _ _)) _ _ _); (with_unfolding_all refine' item_litK (by is_list) (by decide) (by decide) (by rfl) ?_ (by with_unfolding_all rfl); k_whole)))
local macro_rules | `(tactic| walk_at "subscriptTail Name Constant ref int") => `(tactic| (k_here; (with_reducible show wpAny _ _ (subscriptTail _ _ (Value.ref _) (Value.int _ _)) _ _ _); (with_unfolding_all refine' item_litK (by is_list) (by decide) (by decide) (by rfl) ?_ (by with_unfolding_all rfl); k_whole)))
local macro_rules | `(tactic| k_room) => `(tactic| ktr_room)
section
open PySem PySem.W PyProof.Rows
open Lean Elab Tactic Meta
/-- the sum that indent_level reckons -/
noncomputable def ilOf (ns : List Int) (ts : Int) : Int := ((rangeKs ts ((ns.length : Int) - ts).toNat).map (fun i : Int => i.fdiv ts * ns.getD i.toNat 0)).sum

noncomputable abbrev lvl (ns : List Int) (nt k : Int) : Int := k * (ilOf ns k + nt)
end
theorem kw_L2 : True := (by k_with_none; w_top off; exact trivial)
section
open PySem PySem.W PyProof.Rows PySem.Calls PyProof.V PySem.Spec
section
variable {prog : PySem.Program} {w : World} {A : Around} {E : PySem.Value → Shared → Prop} {s : Shared} {env : Env} {h₀ : Heap} {target : PySem.Expr} {body : List Stmt} {Q : Flow → Shared → Prop}

noncomputable def LoopK (prog : PySem.Program) (w : World) (A : Around) (E : PySem.Value → Shared → Prop) (env : Env) (target : PySem.Expr) (body : List Stmt) (Q : Flow → Shared → Prop) (it : PySem.Value) (s : Shared) : Prop :=
  codeAny (model prog w) A (.forLoop target it body [] env) (fun r s' => match r with | .ok f => Q f s' | .error e => cameBackBy (model prog w) A env E e s') s

theorem my_For {iter : PySem.Expr} {pos : Pos}
    (h : wpAny (model prog w) A (eval iter env) (fun x s₁ => wpAny (model prog w) A (pyIter x) (fun it s₂ => LoopK prog w A E env target body Q it s₂) E s₁) E s)
    (hs : ∀ x, foldedSetIterable iter env x = pure x := by intro _; rfl) :
    wpAny (model prog w) A (exec (.For target iter body [] pos) env) Q E s := wpAny_For h hs

theorem my_loop {I : Addr} {fp : List Addr} {n : Nat} {P : Nat → PySem.Value → Prop} {St : Nat → Heap → Prop} {m : PySem.Str → Option PySem.Value} {news : List (Addr × PySem.Obj)}
    (J : Nat → (PySem.Str → Option PySem.Value) → List (Addr × PySem.Obj) → Prop)
    (W : Walks prog w A I fp [I] n P St) (hIf : I ∈ fp) (hob : ∀ i h, St i h → ∃ o, h.get? I = some o)
    (hfp : ∀ b ∈ fp, b = I ∨ (∃ o, h₀.get? b = some o) ∨ ∃ o, ∀ i m nx, J i m nx → (b, o) ∈ nx)
    (hLf : env.locals ∉ fp) (hI : h₀.get? I = none) (hnI : ∀ p ∈ news, p.1 ≠ I)
    (hst : St 0 s.heap) (F : Fr h₀ env.locals s.heap m) (N : News h₀ env.locals s.heap news) (hj : J 0 m news)
    (ht : ∀ v, letOwnedTupleGo target (.ref I) v = pure ()) (hE : PassesOwn (model prog w) A env E)
    (turn : ∀ i v m₁ nx h tk o, i < n → P i v → J i m₁ nx → OwnOff [(I, o)] (nx.map (·.1)) → Fr h₀ env.locals h m₁ → News h₀ env.locals h (nx ++ [(I, o)]) →
      wpAny (model prog w) A (assign target env v) (fun _ s₂ => wpAny (model prog w) A (execs body env) (InvPostG h₀ env.locals (J (i + 1)) [(I, o)] { s with heap := h, toks := tk } Q) E s₂) E { s with heap := h, toks := tk })
    (done : ∀ m₁ nx h tk, J n m₁ nx → Fr h₀ env.locals h m₁ → News h₀ env.locals h nx → Q .next { s with heap := h, toks := tk }) :
    LoopK prog w A E env target body Q (.ref I) s := by
  have hLI : I ≠ env.locals := fun e => hLf (e ▸ hIf)
  refine codeAny_forLoop
    (fun k s' => ∃ h' tk m' nx i, s' = { s with heap := h', toks := tk } ∧ St i h' ∧ Fr h₀ env.locals h' m' ∧ News h₀ env.locals h' nx ∧ (∀ p ∈ nx, p.1 ≠ I) ∧ J i m' nx ∧ i ≤ n ∧ k = n + 1 - i) ?_ (n + 1)
    ⟨s.heap, s.toks, m, news, 0, rfl, hst, F, N, hnI, hj, Nat.zero_le _, rfl⟩ ht
  rintro k s' ⟨h', tk, m', nx, i, rfl, hst', F', N', hnw', hJ, hi, rfl⟩
  have next : ∀ h₁ : Heap, (∀ b o, b ∉ [I] → h'.get? b = some o → h₁.get? b = some o) → Fr h₀ env.locals h₁ m' ∧ News h₀ env.locals h₁ nx := fun h₁ hk₁ =>
    ⟨⟨F'.ns.at' fun o e => hk₁ _ o (fun q => hLI (List.mem_singleton.mp q).symm) e, fun b o e => hk₁ b o (fun q => by rw [List.mem_singleton.mp q, hI] at e; cases e) (F'.keep b o e), F'.above⟩,
      fun p hp => ⟨hk₁ _ _ (fun q => hnw' p hp (List.mem_singleton.mp q)) (N' p hp).1, (N' p hp).2⟩⟩
  by_cases hlt : i < n
  · refine W.item i _ _ _ hlt hst' fun v h₁ tk₁ hP hst₁ hk₁ => ?_
    obtain ⟨F₁, N₁⟩ := next h₁ hk₁
    obtain ⟨o, ho⟩ := hob _ _ hst₁
    have hoff : OwnOff [(I, o)] (nx.map (·.1)) := by
      intro p hp b hb e
      obtain ⟨q, hq, rfl⟩ := List.mem_map.mp hb
      rw [List.mem_singleton.mp hp] at e
      exact hnw' q hq e.symm
    have N₁' : News h₀ env.locals h₁ (nx ++ [(I, o)]) := fun p hp => by
      rcases List.mem_append.mp hp with hp | hp
      · exact N₁ p hp
      · rw [List.mem_singleton.mp hp]; exact ⟨ho, hLI, hI⟩
    refine wpAny_mono (turn i v m' nx h₁ tk₁ o hlt hP hJ hoff F₁ N₁') (fun _ s₂ h₂ => wpAny_mono h₂ (fun f s₃ h₃ => ?_) hE) hE
    have fin : InvEndG h₀ env.locals (J (i + 1)) [(I, o)] { s with heap := h₁, toks := tk₁ } s₃ → ∃ k', k' < n + 1 - i ∧ ∃ h' tk m' nx i, s₃ = { s with heap := h', toks := tk } ∧ St i h' ∧ Fr h₀ env.locals h' m' ∧ News h₀ env.locals h' nx ∧ (∀ p ∈ nx, p.1 ≠ I) ∧ J i m' nx ∧ i ≤ n ∧ k' = n + 1 - i := by
      rintro ⟨h₃', tk₃, m₂, news', nx', rfl, F₃, N₃, hn, ho₃, hoff₃, hJ₃⟩
      refine ⟨n + 1 - (i + 1), by lia, h₃', tk₃, m₂, nx', i + 1, rfl, ?_, F₃, fun p hp => N₃ p (hn p hp), ?_, hJ₃, hlt, rfl⟩
      · refine W.frame _ _ _ hst₁ fun b hb o' e => ?_
        rcases hfp b hb with hbI | hb0 | hbJ
        · subst hbI; rw [ho] at e; cases e
          exact (N₃ _ (ho₃ _ (.head _))).1
        · obtain ⟨oo, h0⟩ := hb0
          have := F₁.keep b oo h0; rw [e] at this; cases this
          exact F₃.keep b _ h0
        · obtain ⟨ob, hJb⟩ := hbJ
          have := (N₁ _ (hJb _ _ _ hJ)).1; rw [e] at this; cases this
          exact (N₃ _ (hn _ (hJb _ _ _ hJ₃))).1
      · intro p hp e
        exact hoff₃ (I, o) (.head _) p.1 (List.mem_map_of_mem hp) e.symm
    cases f with
    | ret v => exact h₃
    | brk => exact h₃
    | next => exact fin h₃
    | cont => exact fin h₃
  · have hin : i = n := by lia
    subst hin
    refine W.done _ _ _ hst' fun h₁ tk₁ hk₁ => wpAny_execs_nil ?_
    obtain ⟨F₁, N₁⟩ := next h₁ hk₁
    exact done m' nx h₁ tk₁ hJ F₁ N₁

theorem my_range {r : Addr} {a₀ b₀ : Int} {t₀ u₀ v₀ : Tok} {n : Nat} {m : PySem.Str → Option PySem.Value} {news : List (Addr × PySem.Obj)}
    (J : Nat → (PySem.Str → Option PySem.Value) → List (Addr × PySem.Obj) → Prop)
    (hh : A.handled = none) (hr : IsRange s.heap r a₀ b₀ 1 t₀ u₀ v₀) (hsmall : Builtin.Range.small a₀ b₀ 1 = true) (hsz : Builtin.Range.rangeSize a₀ b₀ 1 = (n : Int))
    (F : Fr h₀ env.locals s.heap m) (N : News h₀ env.locals s.heap news) (hj : J 0 m news)
    (ht : ∀ v, letOwnedTupleGo target (.ref s.heap.objs.size) v = pure ()) (hE : PassesOwn (model prog w) A env E)
    (turn : ∀ (i : Nat) (k : Int) t m₁ nx h tk I o, i < n → k = a₀ + i → J i m₁ nx → OwnOff [(I, o)] (nx.map (·.1)) → Fr h₀ env.locals h m₁ → News h₀ env.locals h (nx ++ [(I, o)]) →
      wpAny (model prog w) A (assign target env (.int k t)) (fun _ s₂ => wpAny (model prog w) A (execs body env) (InvPostG h₀ env.locals (J (i + 1)) [(I, o)] { s with heap := h, toks := tk } Q) E s₂) E { s with heap := h, toks := tk })
    (done : ∀ m₁ nx h tk, J n m₁ nx → Fr h₀ env.locals h m₁ → News h₀ env.locals h nx → Q .next { s with heap := h, toks := tk }) :
    wpAny (model prog w) A (pyIter (.ref r)) (fun it s₂ => LoopK prog w A E env target body Q it s₂) E s := by
  refine wpAny_pyIter_range hr hsmall ?_
  have W : Walks prog w A s.heap.objs.size [s.heap.objs.size] [s.heap.objs.size] n (fun i v => i < n ∧ ∃ t, v = .int (a₀ + i * 1) t)
      (fun i h => IsRangeIter h s.heap.objs.size (a₀ + (i : Nat) * 1) ((n : Int) - (i : Nat)) 1) := (Walks.range hh _ a₀ 1 n).bound
  refine my_loop J W (.head _) (fun i h hi => ⟨_, hi⟩) (fun b hb => .inl (List.mem_singleton.mp hb)) ?_ (next_is_new F) ?_ (by show IsRangeIter _ _ _ _ _; rw [hsz]; simpa using Heap.get?_push_size _ rfl) (F.push _) (fun p hp => ⟨Heap.get?_push_of_some _ (N p hp).1, (N p hp).2⟩) hj ht hE ?_ done
  · intro hm
    exact absurd F.ns.lt ((List.mem_singleton.mp hm) ▸ Nat.lt_irrefl _)
  · intro p hp hI
    exact absurd (Heap.lt_size (N p hp).1) (hI ▸ Nat.lt_irrefl _)
  · rintro i v m₁ nx h tk o hi ⟨_, t, rfl⟩ hJ hoff F₁ N₁
    exact turn i _ t m₁ nx h tk _ o hi (by lia) hJ hoff F₁ N₁

theorem kdc_fr {L : Addr} {h : Heap} {x : PySem.Str} {ps : List (PySem.Str × PySem.Value)} {stored : List PySem.Str} {m₀ m₁ : PySem.Str → Option PySem.Value} (hx : stored.contains x = true) (h1 : ∀ p ∈ ps, m₁ p.1 = some p.2) (h2 : ∀ z, z ≠ x → (∀ p ∈ ps, z ≠ p.1) → stored.contains z = false → m₁ z = m₀ z)
    (F : Fr h₀ L h m₁) : Fr h₀ L h (kstB (fun z => if stored.contains z then m₁ z else m₀ z) ps) := by
  have em : kstB (fun z => if stored.contains z then m₁ z else m₀ z) ps = m₁ := by
    funext y
    refine kstB_eq h1 fun hn => ?_
    show (if stored.contains y = true then m₁ y else m₀ y) = m₁ y
    cases h3 : stored.contains y with
    | true => simp
    | false =>
      simp only [Bool.false_eq_true, if_false]
      exact (h2 y (fun e => by rw [e, hx] at h3; cases h3) hn h3).symm
  rw [em]
  exact F
set_option maxHeartbeats 3200000 in
theorem kdc_range {σ : Type} {x : PySem.Str} {r : Addr} {a₀ b₀ : Int} {t₀ u₀ v₀ : Tok} {n : Nat} {m₀ : PySem.Str → Option PySem.Value} {news : List (Addr × PySem.Obj)} (Led : σ → List (Addr × PySem.Obj)) (cst : List (Addr × PySem.Obj)) (ps : σ → List (PySem.Str × PySem.Value)) (Facts : List (Addr × PySem.Obj) → σ → Prop) (stored : List PySem.Str) (P : List Int → σ → Prop) (adr : List Addr) (c₀ : σ)
    (hx : stored.contains x = true) (hh : A.handled = none) (hr : IsRange s.heap r a₀ b₀ 1 t₀ u₀ v₀) (hsmall : Builtin.Range.small a₀ b₀ 1 = true) (hsz : Builtin.Range.rangeSize a₀ b₀ 1 = (n : Int)) (F : Fr h₀ env.locals s.heap m₀) (N : News h₀ env.locals s.heap news) (hn : ∀ p ∈ Led c₀ ++ (cst ++ []), p ∈ news) (hadr : ∀ c, (Led c ++ cst).map (·.1) = adr) (hf : Facts (cst ++ []) c₀) (hk : ∀ p ∈ ps c₀, m₀ p.1 = some p.2) (hp : P [] c₀)
    (ht : ∀ v, letOwnedTupleGo target (.ref s.heap.objs.size) v = pure ()) (hE : PassesOwn (model prog w) A env E)
    (turn : ∀ (c : σ) tl (pre : List Int) (k : Int) t (u : PySem.Str → Option PySem.Value) h tk own, k = a₀ + (pre.length : Int) → pre.length < n → KdSep own tl adr → OwnOff (tl ++ own) adr → Facts (cst ++ tl) c → P pre c →
      Fr h₀ env.locals h (kstB (fun z => if stored.contains z then u z else m₀ z) (ps c)) → News h₀ env.locals h (Led c ++ (cst ++ (tl ++ own))) →
      wpAny (model prog w) A (assign target env (.int k t)) (fun _ s₂ => wpAny (model prog w) A (execs body env) (InvPostG h₀ env.locals (KdS Led cst ps Facts x stored m₀ P adr (pre ++ [k])) own { s with heap := h, toks := tk } Q) E s₂) E { s with heap := h, toks := tk })
    (done : ∀ (c : σ) tl (u : PySem.Str → Option PySem.Value) h tk, OwnOff tl adr → Facts (cst ++ tl) c → P (rangeKs a₀ n) c → Fr h₀ env.locals h (kstB (fun z => if stored.contains z then u z else m₀ z) (ps c)) → News h₀ env.locals h (Led c ++ (cst ++ tl)) → Q .next { s with heap := h, toks := tk }) :
    wpAny (model prog w) A (pyIter (.ref r)) (fun it s₂ => LoopK prog w A E env target body Q it s₂) E s := by
  refine my_range (fun i m nx => KdS Led cst ps Facts x stored m₀ P adr ((rangeKs a₀ n).take i) m nx) hh hr hsmall hsz F (fun p hp => N p (hn p hp)) ⟨c₀, [], rfl, fun _ hp => (nomatch hp), hf, hk, fun _ _ _ _ => rfl, by simpa using hp⟩ ht hE ?_ ?_
  · rintro i k t m₁ nx h tk I o hi hk1 ⟨c, tl, rfl, ht', hf', h1, h2, hp'⟩ hoff F₁ N₁
    have hk' : (rangeKs a₀ n)[i]? = some k := by rw [hk1]; simp [rangeKs, hi]
    have hs : (rangeKs a₀ n).take (i + 1) = (rangeKs a₀ n).take i ++ [k] := by simp [List.take_add_one, hk']
    have hlen : ((rangeKs a₀ n).take i).length = i := by rw [List.length_take, rangeKs_length]; lia
    rw [hs]
    obtain ⟨o1, o2⟩ := kd_split (hadr c) hoff
    rw [List.append_assoc, List.append_assoc] at N₁
    exact turn c tl _ _ t m₁ h tk _ (by rw [hlen]; exact hk1) (by rw [hlen]; exact hi) ⟨o1, o2, ht'⟩ (kd_off o1 ht') hf' hp' (kdc_fr hx h1 h2 F₁) N₁
  · rintro m₁ nx h tk ⟨c, tl, rfl, ht', hf', h1, h2, hp'⟩ F₁ N₁
    have hl : (rangeKs a₀ n).take n = rangeKs a₀ n := List.take_of_length_le (Nat.le_of_eq (rangeKs_length _ _))
    rw [hl] at hp'
    exact done c tl m₁ h tk ht' hf' hp' (kdc_fr hx h1 h2 F₁) N₁

theorem my_str {xn : PySem.Str} {x : PySem.Str} {t : Tok} {m : PySem.Str → Option PySem.Value} {news : List (Addr × PySem.Obj)}
    (J : Nat → (PySem.Str → Option PySem.Value) → List (Addr × PySem.Obj) → Prop)
    (hh : A.handled = none) (F : Fr h₀ env.locals s.heap m) (N : News h₀ env.locals s.heap news) (hj : J 0 m news)
    (turn : ∀ i c u m₁ nx h tk own, x.cps[i]? = some c → OwnOff own (nx.map (·.1)) → J i m₁ nx → Fr h₀ env.locals h (fun y => if y = xn then some (.str ⟨#[c]⟩ u) else m₁ y) → News h₀ env.locals h (nx ++ own) →
      wpAny (model prog w) A (execs body env) (InvPostG h₀ env.locals (J (i + 1)) own { s with heap := h, toks := tk } Q) E { s with heap := h, toks := tk })
    (done : ∀ m₁ nx h tk, J x.cps.size m₁ nx → Fr h₀ env.locals h m₁ → News h₀ env.locals h nx → Q .next { s with heap := h, toks := tk }) :
    wpAny (model prog w) A (pyIter (.str x t)) (fun it s₂ => LoopAtV prog w A h₀ env xn body Q E it s₂) E s := by
  have main : ∀ (ty : String) (W : Walks prog w A s.heap.objs.size [s.heap.objs.size] [s.heap.objs.size] x.cps.size (SignAt x) (fun i h => h.IsStrIter s.heap.objs.size ty x t i)),
      LoopAtV prog w A h₀ env xn body Q E (.ref s.heap.objs.size) { s with heap := s.heap.push { cls := .type ty, data := .fields #[.str x t, .int 0 0] } } := by
    intro ty W
    refine kdr_loop (s := { s with heap := s.heap.push { cls := .type ty, data := .fields #[.str x t, .int 0 0] } }) J W (fun _ h => h) (fun _ h => h) ?_ ?_ ?_ ?_ ⟨_, Heap.get?_push_size _ rfl, rfl, rfl⟩ (F.push _) (fun p hp => ⟨Heap.get?_push_of_some _ (N p hp).1, (N p hp).2⟩) hj ?_ done
    · rintro i h ⟨o, ho, _⟩ b hb
      rw [List.mem_singleton.mp hb]
      exact ⟨o, ho⟩
    · intro hm
      exact absurd F.ns.lt ((List.mem_singleton.mp hm) ▸ Nat.lt_irrefl _)
    · intro b hb
      rw [List.mem_singleton.mp hb]
      exact next_is_new F
    · intro p hp hI
      exact absurd (Heap.lt_size (N p hp).1) ((List.mem_singleton.mp hI) ▸ Nat.lt_irrefl _)
    · rintro i v m₁ nx h tk own hi ⟨c, u, hc, rfl⟩ hoff hJ F₁ N₁
      exact turn i c u m₁ nx h tk own hc hoff hJ F₁ N₁
  cases ha : x.cps.all (· < 128)
  · exact wpAny_pyIter_wide ha (main _ (Walks.strWide hh _ x t))
  · exact wpAny_pyIter_ascii ha (main _ (Walks.strAscii hh _ x t))
end
end
theorem kw_P1 : True := (by k_with_none; w_top off; exact trivial)
section
open PySem PySem.W PyProof.Rows
/-- one more run of b -/
noncomputable def bump (ns : List Int) (b : Nat) : List Int :=
  let ms := if ns.length ≤ b then ns ++ List.replicate (b - ns.length + 1) 0 else ns
  ms.set b (ms.getD b 0 + 1)
structure Sc where
  ns : List Int
  b : Nat
  n : Nat
  nt : Nat
noncomputable def Sc.step (st : Sc) (c : Nat) : Sc := if c = 32 then { st with b := st.b + 1, n := st.n + 1 } else { ns := bump st.ns st.b, b := 0, n := st.n + 1, nt := st.nt + 1 }
noncomputable def histL (rs : List Int) : List Int := rs.foldl (fun ns r => bump ns r.toNat) []
noncomputable def charsOf (rs : List Int) : List Nat := rs.flatMap fun r => List.replicate r.toNat 32 ++ [9]
theorem step_spaces (st : Sc) : ∀ k : Nat, (List.replicate k 32).foldl Sc.step st = { st with b := st.b + k, n := st.n + k } := by
  intro k
  induction k generalizing st with
  | zero => rfl
  | succ k ih =>
    rw [List.replicate_succ, List.foldl_cons, ih]
    show ({ ns := st.ns, b := st.b + 1 + k, n := st.n + 1 + k, nt := st.nt } : Sc) = _
    rw [Nat.add_assoc, Nat.add_assoc, Nat.add_comm 1 k]
theorem fold_lines (rs : List Int) : ∀ st : Sc, st.b = 0 → (charsOf rs).foldl Sc.step st = { ns := rs.foldl (fun ns r => bump ns r.toNat) st.ns, b := 0, n := st.n + (charsOf rs).length, nt := st.nt + rs.length } := by
  induction rs with
  | nil => intro st h; obtain ⟨ns, b, n, nt⟩ := st; subst h; rfl
  | cons r rs ih =>
    intro st h
    have e : charsOf (r :: rs) = (List.replicate r.toNat 32 ++ [9]) ++ charsOf rs := rfl
    rw [e, List.foldl_append, List.foldl_append, step_spaces, List.foldl_cons, List.foldl_nil]
    have e2 : Sc.step { ns := st.ns, b := st.b + r.toNat, n := st.n + r.toNat, nt := st.nt } 9 = { ns := bump st.ns (st.b + r.toNat), b := 0, n := st.n + r.toNat + 1, nt := st.nt + 1 } := rfl
    rw [e2, ih _ rfl, h]
    simp only [Nat.zero_add, List.foldl_cons, List.length_append, List.length_replicate, List.length_cons, List.length_nil]
    congr 1 <;> lia
theorem fold_all (rs : List Int) : (charsOf rs).foldl Sc.step ⟨[], 0, 0, 0⟩ = ⟨histL rs, 0, (charsOf rs).length, rs.length⟩ := by
  rw [fold_lines rs _ rfl]; simp [histL]
theorem bump_length (ns : List Int) (b : Nat) : (bump ns b).length = max ns.length (b + 1) := by
  unfold bump
  simp only [List.length_set]
  split
  · rw [List.length_append, List.length_replicate]; lia
  · lia
theorem chars_mem {rs : List Int} {c : Nat} (h : c ∈ charsOf rs) : c = 32 ∨ c = 9 := by
  unfold charsOf at h
  obtain ⟨r, _, hr⟩ := List.mem_flatMap.mp h
  rcases List.mem_append.mp hr with h | h
  · exact .inl (List.eq_of_mem_replicate h)
  · exact .inr (List.mem_singleton.mp h)
theorem fold_bounds (cs : List Nat) : ∀ st : Sc, (cs.foldl Sc.step st).b ≤ st.b + cs.length ∧ (cs.foldl Sc.step st).ns.length ≤ max st.ns.length (st.b + cs.length + 1) := by
  induction cs with
  | nil => intro st; exact ⟨Nat.le_refl _, Nat.le_max_left ..⟩
  | cons c cs ih =>
    intro st
    have := ih (st.step c)
    rw [List.foldl_cons, List.length_cons]
    unfold Sc.step at this ⊢
    split at this
    · rename_i h; simp only [h, if_true] at this ⊢; rw [← Nat.add_assoc, Nat.add_right_comm] ; exact ⟨this.1, this.2⟩
    · rename_i h; simp only [h, if_false, bump_length] at this ⊢; lia
theorem cps_mk (a : Array Nat) : (PySem.Str.mk a).cps = a := rfl
theorem txt_join_empty : ∀ l : List PySem.Str, (PySem.Txt.join (Str.ofString "") l).cps.toList = l.flatMap (fun s => s.cps.toList) := by
  intro l
  show (Builtin.Str.glued (PySem.Str.ofString "") l).cps.toList = _
  rw [StrLaws.glued_eq_join]
  induction l with
  | nil => rfl
  | cons a r ih =>
    cases r with
    | nil => simp [PySem.Str.join]
    | cons b r =>
      rw [List.flatMap_cons, ← ih]
      show ((a ++ PySem.Str.ofString "") ++ PySem.Str.join (PySem.Str.ofString "") (b :: r)).cps.toList = _
      have e : ∀ x y : PySem.Str, (x ++ y).cps.toList = x.cps.toList ++ y.cps.toList := fun x y => by
        show (x.cps ++ y.cps).toList = _
        exact Array.toList_append
      rw [e, e]
      have : (PySem.Str.ofString "").cps.toList = [] := by decide
      rw [this, List.append_nil]
/-- a run and its tab -/
noncomputable def lineOf (k : Int) : PySem.Str := PySem.Txt.mul (Str.ofString " ") k ++ Str.ofString "\t"
theorem lineOf_chars {k : Int} (h : 0 ≤ k ∧ k ≤ 12) : (lineOf k).cps.toList = List.replicate k.toNat 32 ++ [9] := by
  obtain ⟨n, rfl⟩ := Int.eq_ofNat_of_zero_le h.1
  exact (by decide : ∀ n : Nat, n < 13 → (lineOf (n : Int)).cps.toList = List.replicate (n : Int).toNat 32 ++ [9]) n (Nat.lt_succ_of_le (Int.ofNat_le.mp h.2))
theorem lineOf_len {k : Int} (h : 0 ≤ k ∧ k ≤ 12) : (lineOf k).length = k.toNat + 1 := by
  have := congrArg List.length (lineOf_chars h)
  rw [List.length_append, List.length_replicate] at this
  exact (Array.length_toList).symm.trans this
noncomputable def textOf (rs : List Int) : PySem.Str := PySem.Txt.join (Str.ofString "") (rs.map lineOf)
theorem textOf_chars {rs : List Int} (hb : ∀ r ∈ rs, 0 ≤ r ∧ r ≤ 12) : (textOf rs).cps.toList = charsOf rs := by
  unfold textOf charsOf
  rw [txt_join_empty, List.flatMap_map]
  induction rs with
  | nil => rfl
  | cons r rs ih =>
    rw [List.flatMap_cons, List.flatMap_cons, ih fun x hx => hb x (.tail _ hx), lineOf_chars (hb r (.head _))]
theorem charsOf_len {rs : List Int} (hb : ∀ r ∈ rs, 0 ≤ r ∧ r ≤ 12) : (charsOf rs).length ≤ 13 * rs.length := by
  unfold charsOf
  induction rs with
  | nil => exact Nat.le_refl _
  | cons r rs ih =>
    have := ih fun x hx => hb x (.tail _ hx)
    have h0 := hb r (.head _)
    rw [List.flatMap_cons, List.length_append, List.length_append, List.length_replicate, List.length_cons, List.length_nil, List.length_cons]
    lia
theorem join_len {rs : List Int} (hb : ∀ r ∈ rs, 0 ≤ r ∧ r ≤ 12) (hl : rs.length ≤ 4) : (PySem.Txt.join (Str.ofString "") (rs.map lineOf)).length ≤ 52 := by
  have h1 := congrArg List.length (textOf_chars hb)
  have h2 := charsOf_len hb
  have h3 : (textOf rs).length = (textOf rs).cps.toList.length := (Array.length_toList).symm
  show (textOf rs).length ≤ 52
  lia
theorem text_at {rs : List Int} (hb : ∀ r ∈ rs, 0 ≤ r ∧ r ≤ 12) {i c : Nat} (h : (PySem.Txt.join (Str.ofString "") (rs.map lineOf) ++ Str.ofString "x \t").cps[i]? = some c) (hi : i ≤ (charsOf rs).length) :
    (i < (charsOf rs).length ∧ (c = 32 ∨ c = 9) ∧ (charsOf rs).take (i + 1) = (charsOf rs).take i ++ [c]) ∨ (i = (charsOf rs).length ∧ c = 120) := by
  have e : (PySem.Txt.join (Str.ofString "") (rs.map lineOf) ++ Str.ofString "x \t").cps.toList = charsOf rs ++ [120, 32, 9] := by
    show ((textOf rs).cps ++ (Str.ofString "x \t").cps).toList = _
    rw [Array.toList_append, textOf_chars hb]
    rfl
  rw [← Array.getElem?_toList, e] at h
  rcases Nat.lt_or_ge i (charsOf rs).length with hlt | hge
  · left
    rw [List.getElem?_append_left hlt] at h
    exact ⟨hlt, chars_mem (List.mem_of_getElem? h), by rw [List.take_add_one, h]; rfl⟩
  · right
    have : i = (charsOf rs).length := by lia
    subst this
    rw [List.getElem?_append_right (Nat.le_refl _), Nat.sub_self] at h
    exact ⟨rfl, (Option.some.inj h).symm⟩
theorem text_size {rs : List Int} (hb : ∀ r ∈ rs, 0 ≤ r ∧ r ≤ 12) : (PySem.Txt.join (Str.ofString "") (rs.map lineOf) ++ Str.ofString "x \t").cps.size = (charsOf rs).length + 3 := by
  have e : (PySem.Txt.join (Str.ofString "") (rs.map lineOf) ++ Str.ofString "x \t").cps.toList = charsOf rs ++ [120, 32, 9] := by
    show ((textOf rs).cps ++ (Str.ofString "x \t").cps).toList = _
    rw [Array.toList_append, textOf_chars hb]
    rfl
  rw [← Array.length_toList, e, List.length_append]; rfl
theorem flat_zeros (k : Nat) : (List.replicate k [(0 : Int)]).flatten = List.replicate k 0 := by
  induction k with
  | zero => rfl
  | succ k ih => rw [List.replicate_succ, List.flatten_cons, ih]; rfl
theorem bump_yes {ns : List Int} {b : Nat} (h : (ns.length : Int) ≤ (b : Int)) :
    (ns ++ (List.replicate ((b : Int) - (ns.length : Int) + 1).toNat [(0 : Int)]).flatten).set ((b : Int)).toNat ((ns ++ (List.replicate ((b : Int) - (ns.length : Int) + 1).toNat [(0 : Int)]).flatten).getD ((b : Int)).toNat 0 + 1) = bump ns b := by
  have e : ((b : Int) - (ns.length : Int) + 1).toNat = b - ns.length + 1 := by lia
  have h' : ns.length ≤ b := by lia
  rw [flat_zeros, e, Int.toNat_natCast]
  unfold bump
  simp only [if_pos h']
theorem bump_no {ns : List Int} {b : Nat} (h : ¬ (ns.length : Int) ≤ (b : Int)) : ns.set ((b : Int)).toNat (ns.getD ((b : Int)).toNat 0 + 1) = bump ns b := by
  have h' : ¬ ns.length ≤ b := by lia
  rw [Int.toNat_natCast]
  unfold bump
  simp only [if_neg h']
end
theorem kw_P2 : True := (by k_with_none; w_top off; exact trivial)
section
open PySem PySem.W PyProof.Rows
theorem bits_le {x : Int} {k : Nat} (h : 0 ≤ x) (h2 : x < 2 ^ k) : Builtin.Int.intBits x ≤ k := by
  unfold Builtin.Int.intBits
  split
  · exact Nat.zero_le _
  · rename_i h0
    have h0' : x ≠ 0 := by simpa using h0
    have hn : x.natAbs < 2 ^ k := by
      have : ((x.natAbs : Nat) : Int) = x := Int.natAbs_of_nonneg h
      have h3 : ((x.natAbs : Nat) : Int) < ((2 ^ k : Nat) : Int) := by rw [this]; push_cast; exact h2
      exact_mod_cast h3
    have := (Nat.log2_lt (by lia : x.natAbs ≠ 0)).mpr hn
    lia
/-- how many digits -/
noncomputable def digN (x n : Int) : Int := ((Builtin.Int.intBits x : Int) + n - 1).fdiv n
theorem digN_rng {x n : Int} (hx : 0 ≤ x ∧ x < 128) (hn : 1 ≤ n ∧ n ≤ 4) : 0 ≤ ((Builtin.Int.intBits x : Int) + n - 1).fdiv n ∧ ((Builtin.Int.intBits x : Int) + n - 1).fdiv n ≤ 7 := by
  have hb : Builtin.Int.intBits x ≤ 7 := bits_le hx.1 (by simpa using hx.2)
  have : n = 1 ∨ n = 2 ∨ n = 3 ∨ n = 4 := by lia
  rw [Int.fdiv_eq_ediv_of_nonneg _ (by lia)]
  rcases this with h | h | h | h <;> subst h <;> lia
theorem and_high (x s : Nat) : x &&& (x / 2 ^ s * 2 ^ s) = x / 2 ^ s * 2 ^ s := by
  rw [← Nat.shiftRight_eq_div_pow, ← Nat.shiftLeft_eq]
  apply Nat.eq_of_testBit_eq
  intro i
  rw [Nat.testBit_and, Nat.testBit_shiftLeft, Nat.testBit_shiftRight]
  by_cases h : s ≤ i
  · have : s + (i - s) = i := by lia
    simp [h, this]
  · simp [h]
theorem xor_low (x s : Nat) : Builtin.bitXor (x : Int) ((x / 2 ^ s * 2 ^ s : Nat) : Int) = ((x % 2 ^ s : Nat) : Int) := by
  rw [bitXor_and]
  have e : Builtin.bitAnd (x : Int) ((x / 2 ^ s * 2 ^ s : Nat) : Int) = ((x / 2 ^ s * 2 ^ s : Nat) : Int) := by
    have h1 : decide (0 ≤ (x : Int)) = true := by simp
    have h2 : decide (0 ≤ ((x / 2 ^ s * 2 ^ s : Nat) : Int)) = true := decide_eq_true (Int.natCast_nonneg _)
    unfold Builtin.bitAnd
    rw [h1, h2]
    show (((x : Int).toNat &&& ((x / 2 ^ s * 2 ^ s : Nat) : Int).toNat : Nat) : Int) = _
    rw [Int.toNat_natCast, Int.toNat_natCast, and_high]
  rw [e]
  have := Nat.div_add_mod' x (2 ^ s)
  lia
theorem fdiv_pow (x s : Nat) : (x : Int).fdiv (2 ^ s) = ((x / 2 ^ s : Nat) : Int) := by
  rw [Int.fdiv_eq_ediv_of_nonneg _ (Int.pow_nonneg (by decide))]
  push_cast
  rfl
theorem mul_pow (x s : Nat) : (x : Int) * 2 ^ s = ((x * 2 ^ s : Nat) : Int) := by push_cast; rfl
theorem mid_eq (lo hi cnt : Nat) (h : hi = lo + cnt) : ((lo : Int) + (hi : Int)).fdiv (2 ^ (1 : Int).toNat) = ((lo + cnt / 2 : Nat) : Int) := by
  have : ((lo : Int) + (hi : Int)) = ((lo + hi : Nat) : Int) := by push_cast; rfl
  rw [this, show (1 : Int).toNat = 1 from rfl, fdiv_pow]
  congr 1
  subst h
  rw [Nat.pow_one]; lia
theorem shift_eq (lo c n : Nat) : (((lo + c : Nat) : Int) - (lo : Int)) * (n : Int) = ((c * n : Nat) : Int) := by
  push_cast
  rw [show (lo : Int) + (c : Int) - (lo : Int) = (c : Int) from by lia]
/-- the digits of x, laid from lo on -/
noncomputable def putD (n : Nat) : Nat → List Int → Nat → Nat → List Int
  | 0, ds, _, _ => ds
  | k + 1, ds, lo, x => putD n k (ds.set lo ((x % 2 ^ n : Nat) : Int)) (lo + 1) (x / 2 ^ n)
theorem putD_len (n : Nat) : ∀ (k : Nat) (ds : List Int) (lo x : Nat), (putD n k ds lo x).length = ds.length
  | 0, _, _, _ => rfl
  | k + 1, ds, lo, x => by rw [putD, putD_len n k, List.length_set]
theorem putD_add (n : Nat) : ∀ (k1 k2 : Nat) (ds : List Int) (lo x : Nat), putD n (k1 + k2) ds lo x = putD n k2 (putD n k1 ds lo (x % 2 ^ (k1 * n))) (lo + k1) (x / 2 ^ (k1 * n))
  | 0, k2, ds, lo, x => by simp [putD]
  | k1 + 1, k2, ds, lo, x => by
    rw [show k1 + 1 + k2 = (k1 + k2) + 1 from by lia, putD, putD_add n k1 k2, putD]
    have e1 : (k1 + 1) * n = n + k1 * n := by rw [Nat.add_mul, Nat.one_mul, Nat.add_comm]
    have h1 : x % 2 ^ ((k1 + 1) * n) % 2 ^ n = x % 2 ^ n := by
      rw [e1, Nat.pow_add]
      exact Nat.mod_mul_right_mod x (2 ^ n) (2 ^ (k1 * n))
    have h2 : x % 2 ^ ((k1 + 1) * n) / 2 ^ n = x / 2 ^ n % 2 ^ (k1 * n) := by
      rw [e1, Nat.pow_add]
      exact Nat.mod_mul_right_div_self x (2 ^ n) (2 ^ (k1 * n))
    have h3 : x / 2 ^ ((k1 + 1) * n) = x / 2 ^ n / 2 ^ (k1 * n) := by
      rw [e1, Nat.pow_add, Nat.div_div_eq_div_mul]
    rw [h1, h2, h3, show lo + 1 + k1 = lo + (k1 + 1) from by lia]
end
theorem kw_C1 : True := (by k_with_none; w_top off; exact trivial)
section
open PySem PySem.W PyProof.Rows
open Lean Elab Tactic Meta
theorem fill1 : PySem.Challenge.rw_sr0071_01 = PySem.Challenge.rw_sr0071_01 ∧ hd0.heap_1 = hd0.heap_1 := by k_fill; exact ⟨rfl, rfl⟩
section
variable {w : World} {mean : ExcName → Option PySem.Value} {mg mb : PySem.Str → Option PySem.Value} {dp un : Nat} {gd : Option (List Code)} {cn : PySem.Str} {cs : Scope} {a : Addr} {ccd : PySem.Value} {cl : List (PySem.Str × Addr)} {outer : List Env} {A₀ : Around} {base h₀ : Heap} {L : Addr} {m : PySem.Str → Option PySem.Value} {news : List (Addr × PySem.Obj)} {s : Shared}
    {Q E : PySem.Value → Shared → Prop}
theorem indent_spec {x : Addr} {ns : List Int} {nt ts : Int} {tt : Tok}
    (B : Below A₀ base outer h₀) (F : Fr h₀ L s.heap m) (X : (hd0.heap_1 w.params).In h₀) (N : News h₀ L s.heap news) (T : Top topProg LS mean mg mb h₀) (hk : cs.kind = .function)
    (hx : WsAt w.params news x ns nt)
    (hts : 1 ≤ ts) (hts2 : ts ≤ 100) (hd : dp + 3 < recursionLimit) (hu : un + 40 < cLine)
    (hret : ∀ t h' tk', Fr h₀ L h' m → News h₀ L h' news → Q (.int (ts * (ilOf ns ts + nt)) t) { s with heap := h', toks := tk' }) :
    wpAny (model PG w) (ktrTop dp un gd cn cs L a ccd cl outer) (call (.ref 176) [.ref x, .int ts tt]) Q E s := by
  obtain ⟨dx, nr, cr, vs, t1, t2, t3, t4, t5, tn, tb, raw, n, simple, e1, e2, h1, h2, h3, h4, hi, hl⟩ := hx
  refine wpAny_call ?_
  k_dflt cell_enter
  (k_with "pyIter ref" => k_state (fun pre il => il = (pre.map (fun i : Int => i.fdiv ts * ns.getD i.toNat 0)).sum) "il")
  k_steps
  have e : _ = ilOf ns ts := kInv
  clear kInv
  subst e
  refine cb_retI (Q := Q) (fun t h' tk' a b => hret t h' tk' a b) ?_ ?_ ?_
  · exact Int.zero_add _
  · assumption
  · assumption
theorem longest_spec {x : Addr} {ns : List Int} {nt : Int}
    (B : Below A₀ base outer h₀) (F : Fr h₀ L s.heap m) (X : (hd0.heap_1 w.params).In h₀) (N : News h₀ L s.heap news) (T : Top topProg LS mean mg mb h₀) (hk : cs.kind = .function)
    (hx : WsAt w.params news x ns nt)
    (hd : dp + 3 < recursionLimit) (hu : un + 40 < cLine)
    (hret : ∀ t h' tk', Fr h₀ L h' m → News h₀ L h' news → Q (.int (((ns.length - 1 : Nat) : Int)) t) { s with heap := h', toks := tk' }) :
    wpAny (model PG w) (ktrTop dp un gd cn cs L a ccd cl outer) (call (.ref 169) [.ref x]) Q E s := by
  obtain ⟨dx, nr, cr, vs, t1, t2, t3, t4, t5, tn, tb, raw, n, simple, e1, e2, h1, h2, h3, h4, hi, hl⟩ := hx
  refine wpAny_call ?_
  k_dflt cell_enter
  k_steps
  refine cb_retI (Q := Q) (fun t h' tk' a b => hret t h' tk' a b) (max_len ns.length) ?_ ?_
  · assumption
  · assumption

end
end
local macro_rules | `(tactic| walk_at "call ref") => `(tactic| (k_here; (with_reducible show wpAny _ _ (call (Value.ref 176) _) _ _ _); k_dflt (refine' indent_spec (by k_asm) (by k_asm) (by k_asm) (by k_asm) (by k_asm) (by first | rfl | assumption) (by (refine' WsAt.mono (by assumption) (by ktd_sub))) (by omega) (by omega) (by ktr_room) (by ktr_units) ?_; k_whole; intro t' h' tk' F' N'; (try dsimp only))))
local macro_rules | `(tactic| walk_at "call ref") => `(tactic| (k_here; (with_reducible show wpAny _ _ (call (Value.ref 169) _) _ _ _); k_dflt (refine' longest_spec (by k_asm) (by k_asm) (by k_asm) (by k_asm) (by k_asm) (by first | rfl | assumption) (by (refine' WsAt.mono (by assumption) (by ktd_sub))) (by ktr_room) (by ktr_units) ?_; k_whole; intro t' h' tk' F' N'; (try dsimp only))))
theorem kw_C2 : True := (by k_with_none; w_top off; exact trivial)
section
open PySem PySem.W PyProof.Rows
open Lean Elab Tactic Meta
theorem fill2 : PySem.Challenge.rw_sr0071_01 = PySem.Challenge.rw_sr0071_01 ∧ hd0.heap_1 = hd0.heap_1 := by k_fill; exact ⟨rfl, rfl⟩
section
variable {w : World} {mean : ExcName → Option PySem.Value} {mg mb : PySem.Str → Option PySem.Value} {dp un : Nat} {gd : Option (List Code)} {cn : PySem.Str} {cs : Scope} {a : Addr} {ccd : PySem.Value} {cl : List (PySem.Str × Addr)} {outer : List Env} {A₀ : Around} {base h₀ : Heap} {L : Addr} {m : PySem.Str → Option PySem.Value} {news : List (Addr × PySem.Obj)} {s : Shared}
    {Q E : PySem.Value → Shared → Prop}
theorem wit_cnt {l : List (Addr × PySem.Obj)} {vs : List PySem.Value} {f g : Int → Int} {n n' : Nat} (h : DatAll l vs ((rangeKs 1 n).filterMap (witF f g))) (e : n = n') : DatAll l vs (witOf n' f g) := e ▸ h
theorem max2 (a b : Nat) : ((if (b : Int) > (a : Int) then (b : Int) else (a : Int)) + 1 + 1 - 1).toNat = max a b + 1 := by
  split
  · rename_i h; rw [Nat.max_eq_right (Nat.le_of_lt (Int.ofNat_lt.mp h))]; lia
  · rename_i h; rw [Nat.max_eq_left (Int.ofNat_le.mp (Int.not_lt.mp h))]; lia
theorem wit_len1 {f : Int → Option Dat} {d : Dat} {pre : List Int} {k : Int} : (pre.filterMap f ++ [d]).length ≤ (pre ++ [k]).length := by
  have := List.length_filterMap_le f pre
  simp only [List.length_append, List.length_cons, List.length_nil]; lia
theorem wit_len0 {f : Int → Option Dat} {pre : List Int} {k : Int} : (pre.filterMap f).length ≤ (pre ++ [k]).length := by
  have := List.length_filterMap_le f pre
  simp only [List.length_append, List.length_cons, List.length_nil]; lia
theorem ret_ref {v : PySem.Value} {news' : List (Addr × PySem.Obj)} {h' : Heap} {tk' : Nat} (hret : ∀ (h' : Heap) (tk' : Nat), Fr h₀ L h' m → News h₀ L h' news' → Q v { s with heap := h', toks := tk' }) (F : Fr h₀ L h' m) (N : News h₀ L h' news') : Q v { s with heap := h', toks := tk' } := hret h' tk' F N
theorem witness_spec {x y : Addr} {ns ms : List Int} {nt mt : Int}
    (B : Below A₀ base outer h₀) (F : Fr h₀ L s.heap m) (X : (hd0.heap_1 w.params).In h₀) (N : News h₀ L s.heap news) (T : Top topProg LS mean mg mb h₀) (hk : cs.kind = .function)
    (hx : WsAt w.params news x ns nt) (hy : WsAt w.params news y ms mt) (hlx : ns.length ≤ 20) (hly : ms.length ≤ 20)
    (hd : dp + 6 < recursionLimit) (hu : un + 80 < cLine)
    (hret : ∀ (l : Addr) (vs : List PySem.Value) (e : Nat) (tl : List (Addr × PySem.Obj)) h' tk', Fr h₀ L h' m → News h₀ L h' ((l, listOf vs.toArray e) :: (news ++ tl)) → OwnOff tl (l :: news.map (·.1)) → (∀ p ∈ news, p.1 < l) → DatAll (news ++ tl) vs (witOf (max (ns.length - 1) (ms.length - 1) + 1) (lvl ns nt) (lvl ms mt)) → Q (.ref l) { s with heap := h', toks := tk' }) :
    wpAny (model PG w) (ktrTop dp un gd cn cs L a ccd cl outer) (call (.ref 190) [.ref x, .ref y]) Q E s := by
  obtain ⟨dx, nr, cr, vs, t1, t2, t3, t4, t5, tn, tb, raw, n, simple, e1, e2, h1, h2, h3, h4, hi, hl⟩ := id hx
  obtain ⟨dx', nr', cr', vs', t1', t2', t3', t4', t5', tn', tb', raw', n', simple', e1', e2', h1', h2', h3', h4', hi', hl'⟩ := id hy
  have hI : (if (((ms.length - 1 : Nat) : Int) > ((ns.length - 1 : Nat) : Int)) then ((ms.length - 1 : Nat) : Int) else ((ns.length - 1 : Nat) : Int)) ≤ 19 := by split <;> lia
  refine wpAny_call ?_
  k_dflt cell_enter
  (k_with "state" => first | exact ⟨List.filterMap_nil.symm, Nat.le_refl _⟩ | exact ⟨wit_yes (by assumption), wit_len1⟩ | exact ⟨wit_no (by first | assumption | exact Decidable.not_not.mp (by assumption)), wit_len0⟩)
  (k_with "pyIter ref" => k_dat (fun pre a => a = pre.filterMap (witF (lvl ns nt) (lvl ms mt)) ∧ a.length ≤ pre.length) "a*")
  k_steps
  exact ret_ref (Q := Q) (fun h' tk' a b => hret _ _ _ _ h' tk' a b kO3 (by assumption) (wit_cnt kFacts (max2 _ _))) (by assumption) (by assumption)
end
end
theorem kw_C3 : True := (by k_with_none; w_top off; exact trivial)
section
open PySem PySem.W PyProof.Rows
open Lean Elab Tactic Meta
theorem fill3 : PySem.Challenge.rw_sr0071_01 = PySem.Challenge.rw_sr0071_01 ∧ hd0.heap_1 = hd0.heap_1 := by k_fill; exact ⟨rfl, rfl⟩
section
variable {w : World} {mean : ExcName → Option PySem.Value} {mg mb : PySem.Str → Option PySem.Value} {dp un : Nat} {gd : Option (List Code)} {cn : PySem.Str} {cs : Scope} {a : Addr} {ccd : PySem.Value} {cl : List (PySem.Str × Addr)} {outer : List Env} {A₀ : Around} {base h₀ : Heap} {L : Addr} {m : PySem.Str → Option PySem.Value} {news : List (Addr × PySem.Obj)} {s : Shared}
    {Q E : PySem.Value → Shared → Prop}
noncomputable def gainF (v0 v1 v2 v3 k : Int) : Option Dat := if v0.fmod k + v1.fmod k < k then none else some (Dat.tuple [.int k, .int (k * ((List.map (fun k' : Int => k'.fdiv k) [v0, v1, v2, v3]).sum + 4)), .int (k * ((List.map (fun k' : Int => k'.fdiv k) [v0, v1, v2, v3]).sum + 4) + k)])
theorem gain_yes {v0 v1 v2 v3 k : Int} (h : k ≤ v0.fmod k + v1.fmod k) : gainF v0 v1 v2 v3 k = some (Dat.tuple [.int k, .int (k * ((List.map (fun k' : Int => k'.fdiv k) [v0, v1, v2, v3]).sum + 4)), .int (k * ((List.map (fun k' : Int => k'.fdiv k) [v0, v1, v2, v3]).sum + 4) + k)]) := by
  unfold gainF; rw [if_neg (by omega)]
theorem gain_no {v0 v1 v2 v3 k : Int} (h : ¬ k ≤ v0.fmod k + v1.fmod k) : gainF v0 v1 v2 v3 k = none := by
  unfold gainF; rw [if_pos (by omega)]
theorem gain_step {f : Int → Option Dat} {pre : List Int} {k : Int} {D : List Dat} (h : D = pre.filterMap f) (hl : D.length ≤ pre.length) : D ++ (f k).toList = (pre ++ [k]).filterMap f ∧ (D ++ (f k).toList).length ≤ (pre ++ [k]).length := by
  have e : D ++ (f k).toList = (pre ++ [k]).filterMap f := by
    rw [List.filterMap_append, h, List.filterMap_cons, List.filterMap_nil]
    cases f k <;> rfl
  refine ⟨e, ?_⟩
  rw [List.length_append, List.length_append, List.length_singleton]
  have : (f k).toList.length ≤ 1 := by cases f k <;> simp
  omega
noncomputable def gainsOf (v0 v1 v2 v3 : Int) : List Dat := (rangeKs 1 (max (v0 + v1) (max v2 v3) + 1).toNat).filterMap (gainF v0 v1 v2 v3)
theorem gains_cnt {l : List (Addr × PySem.Obj)} {vs : List PySem.Value} {v0 v1 v2 v3 : Int} {n : Nat} (h : DatAll l vs ((rangeKs 1 n).filterMap (gainF v0 v1 v2 v3))) (e : n = (max (v0 + v1) (max v2 v3) + 1).toNat) : DatAll l vs (gainsOf v0 v1 v2 v3) := by
  unfold gainsOf; rw [← e]; exact h
theorem m_le {M v0 v1 v2 v3 : Int} (h : M = v0 + v1 ∨ M = v0 ∨ M = v1 ∨ M = v2 ∨ M = v3) (b0 : 1 ≤ v0 ∧ v0 ≤ 6) (b1 : 1 ≤ v1 ∧ v1 ≤ 6) (b2 : 1 ≤ v2 ∧ v2 ≤ 6) (b3 : 1 ≤ v3 ∧ v3 ≤ 6) : M ≤ 12 := by
  rcases h with h | h | h | h | h <;> rw [h]
  · exact Int.add_le_add b0.2 b1.2
  · exact Int.le_trans b0.2 (by decide)
  · exact Int.le_trans b1.2 (by decide)
  · exact Int.le_trans b2.2 (by decide)
  · exact Int.le_trans b3.2 (by decide)
theorem gains_max {M v0 v1 v2 v3 : Int} (h : M = v0 + v1 ∨ M = v0 ∨ M = v1 ∨ M = v2 ∨ M = v3) (h' : v0 + v1 ≤ M ∧ v0 ≤ M ∧ v1 ≤ M ∧ v2 ≤ M ∧ v3 ≤ M) (b0 : 1 ≤ v0 ∧ v0 ≤ 6) (b1 : 1 ≤ v1 ∧ v1 ≤ 6) : (M + 2 - 1).toNat = (max (v0 + v1) (max v2 v3) + 1).toNat := by
  have e : M = max (v0 + v1) (max v2 v3) := Int.le_antisymm (by
    rcases h with h | h | h | h | h <;> rw [h]
    · exact Int.le_max_left ..
    · exact Int.le_trans (by omega) (Int.le_max_left ..)
    · exact Int.le_trans (by omega) (Int.le_max_left ..)
    · exact Int.le_trans (Int.le_max_left ..) (Int.le_max_right ..)
    · exact Int.le_trans (Int.le_max_right ..) (Int.le_max_right ..)) (Int.max_le.mpr ⟨h'.1, Int.max_le.mpr ⟨h'.2.2.2.1, h'.2.2.2.2⟩⟩)
  rw [← e, Int.add_sub_assoc]; rfl
theorem own_drop {tl : List (Addr × PySem.Obj)} {a b : Addr} {l : List Addr} (h : OwnOff tl (a :: b :: l)) : OwnOff tl (a :: l) := fun p hp x hx => h p hp x (by
  rcases List.mem_cons.mp hx with h1 | h1
  · rw [h1]; exact .head _
  · exact .tail _ (.tail _ h1))
theorem news_drop {h₀ h : Heap} {L : Addr} {a b : Addr × PySem.Obj} {l : List (Addr × PySem.Obj)} (N : News h₀ L h (a :: b :: l)) : News h₀ L h (a :: l) := fun p hp => N p (by
  rcases List.mem_cons.mp hp with h1 | h1
  · rw [h1]; exact .head _
  · exact .tail _ (.tail _ h1))
noncomputable def Wait (p : Prop) : Prop := p
theorem Wait.mk {p : Prop} (h : Wait p) : p := h
theorem Wait.out {p : Prop} (h : p) : Wait p := h
local macro_rules | `(tactic| walk_at "InvEndG") => `(tactic| with_reducible refine Wait.mk ?_)
theorem gains_spec {vl : Addr} {v0 v1 v2 v3 : Int} {t0 t1 t2 t3 : Tok} {ne : Nat}
    (B : Below A₀ base outer h₀) (F : Fr h₀ L s.heap m) (X : (hd0.heap_1 w.params).In h₀) (N : News h₀ L s.heap news) (T : Top topProg LS mean mg mb h₀) (hk : cs.kind = .function)
    (hv : (vl, listOf #[.int v0 t0, .int v1 t1, .int v2 t2, .int v3 t3] ne) ∈ news)
    (b0 : 1 ≤ v0 ∧ v0 ≤ 6) (b1 : 1 ≤ v1 ∧ v1 ≤ 6) (b2 : 1 ≤ v2 ∧ v2 ≤ 6) (b3 : 1 ≤ v3 ∧ v3 ≤ 6)
    (hd : dp + 6 < recursionLimit) (hu : un + 80 < cLine)
    (hret : ∀ (l : Addr) (vs : List PySem.Value) (e : Nat) (tl : List (Addr × PySem.Obj)) h' tk', Fr h₀ L h' m → News h₀ L h' ((l, listOf vs.toArray e) :: (news ++ tl)) → OwnOff tl (l :: news.map (·.1)) → (∀ p ∈ news, p.1 < l) → DatAll (news ++ tl) vs (gainsOf v0 v1 v2 v3) → Q (.ref l) { s with heap := h', toks := tk' }) :
    wpAny (model PG w) (ktrTop dp un gd cn cs L a ccd cl outer) (call (.ref 221) [.ref vl]) Q E s := by
  refine wpAny_call ?_
  k_dflt (refine' code_defC ?k1 ?k2 ?k3 ?k4 ?k5 ?kA ?kF ?kK ?k6 ?k7 ?k8 ?k9 ?kB ?kD ?_ ?c2 ?c3 ?c4; (case kA => exact rfl); (case kF => exact rfl); (case kK => assumption); (case k1 => k_asm); (case k2 => k_asm); (case k3 => k_asm); (case k4 => k_asm); (case k5 => k_asm); (case k6 => k_is); (case k7 => k_is); (case k8 => ktr_room); (case k9 => exact BindsTo.of_eq rfl); (case kB => exact rfl); (case kD => decide +kernel); (case c2 => exact rfl); (case c3 => exact rfl); (case c4 => exact rfl); k_whole; intro g' L' h' tk' cells' FG' F' N' Y' B' X' T' l1; (try k_lt l1); k_cells Y'; (try simp only [List.cons_append, List.nil_append] at N'); (try dsimp only); (try k_lift B'); (try k_fold))
  k_steps
  refine my_For ?_
  k_steps
  have hM12 := m_le (v0 := v0) (v1 := v1) (v2 := v2) (v3 := v3) (by assumption) b0 b1 b2 b3
  rename IsRange _ _ _ _ _ _ _ _ => hr
  rename Fr _ _ _ _ => F2
  rename News _ _ _ _ => N2
  with_unfolding_all refine' kdc_range (σ := List PySem.Value × Nat × List Dat × PySem.Obj × Option PySem.Value) (x := Str.ofString "size") (fun c => [(?lg, listOf c.1.toArray c.2.1), (L' + 1, c.2.2.2.1)]) news (fun _ => []) (fun L9 c => DatAll L9 c.1 c.2.2.1 ∧ c.2.2.2.1.data = .cell c.2.2.2.2) [Str.ofString "size", Str.ofString "column"] (fun pre c => c.2.2.1 = pre.filterMap (gainF v0 v1 v2 v3) ∧ c.2.2.1.length ≤ pre.length) (?lg :: (L' + 1) :: news.map (·.1)) ⟨[], 0, [], ?oC, ?cv⟩ (by rfl) (by rfl) hr (small_one (by omega) (by omega) (by omega) (by omega)) (rangeSize_nat _ _) F2 N2 ?ki ?ka ?kf ?kk ?kp (fun _ => rfl) (by passes_own) ?turn ?done
  case ki => kd_inAll
  case ka => intro c9; kd_rfl
  case kf => exact ⟨.nil, by assumption⟩
  case kk => kst_all
  case kp => exact ⟨List.filterMap_nil.symm, Nat.le_refl _⟩
  case turn =>
    clear F2 N2 hr
    rintro ⟨vsG, eG, D, oC, cv⟩ tl pre k t u h tk own hk hlt hsep hoff ⟨hD, hoC⟩ ⟨hDe, hlen⟩ F1 N1
    have kMark := kdMark
    have kMark2 := kstMark
    dsimp only [List.cons_append, List.nil_append, kstB] at F1 N1 hD hoC hlen hDe
    have hk1 : 1 ≤ k := by omega
    have hk2 : k ≤ 14 := by omega
    have l1' : ∀ p ∈ news, p.1 < L' + 1 := fun p hp => Nat.lt_succ_of_lt (l1 p hp)
    have hvl : vsG.length ≤ 20 := by rw [hD.length]; omega
    (try k_fold)
    k_steps
    · refine Wait.out ?_
      kd_ends 8
      rotate_left 4
      exact (D ++ (gainF v0 v1 v2 v3 k).toList)
      exact some (.int k t)
      case kdk => kst_all
      case kdr => kst_same
      case kdp => exact gain_step hDe hlen
      case kdf =>
        refine ⟨(hD.mono kd_sub).append ?_, by assumption⟩
        rw [gain_yes (by omega)]
        exact (DatAll.one (DatIn.tuple (kd_new (.head _)) (.cons (.int _ _) (.cons (.int _ _) (.cons (.int _ _) .nil)))))
    · refine Wait.out ?_
      kd_ends 8
      rotate_left 4
      exact (D ++ (gainF v0 v1 v2 v3 k).toList)
      exact some (.int k t)
      case kdk => kst_all
      case kdr => kst_same
      case kdp => exact gain_step hDe hlen
      case kdf =>
        refine ⟨?_, by assumption⟩
        rw [gain_no (by omega)]
        simpa using hD
  case done =>
    clear F2 N2 hr
    rintro ⟨vsG, eG, D, oC, cv⟩ tl u h tk hoff ⟨hD, hoC⟩ ⟨hDe, hlen⟩ F1 N1
    have kMark := kdMark
    have kMark2 := kstMark
    dsimp only [List.cons_append, List.nil_append, kstB] at F1 N1 hD hoC hlen hDe
    (try k_fold)
    k_steps
    refine ret_ref (Q := Q) (fun h' tk' a b => hret _ vsG eG tl h' tk' a b (own_drop hoff) (fun p hp => allLt_out (And.right (by assumption : L' + 1 < _ ∧ AllLt _ news)) p hp) (gains_cnt (hDe ▸ hD) (gains_max (by assumption) (by assumption) b0 b1))) (by assumption) (news_drop (by assumption))
end
end
theorem kw_C4 : True := (by k_with_none; w_top off; exact trivial)
section
open PySem PySem.W PyProof.Rows
open Lean Elab Tactic Meta
theorem fill4 : PySem.Challenge.rw_sr0071_01 = PySem.Challenge.rw_sr0071_01 ∧ hd0.heap_1 = hd0.heap_1 := by k_fill; exact ⟨rfl, rfl⟩
section
variable {w : World} {mean : ExcName → Option PySem.Value} {mg mb : PySem.Str → Option PySem.Value} {dp un : Nat} {gd : Option (List Code)} {cn : PySem.Str} {cs : Scope} {a : Addr} {ccd : PySem.Value} {cl : List (PySem.Str × Addr)} {outer : List Env} {A₀ : Around} {base h₀ : Heap} {L : Addr} {m : PySem.Str → Option PySem.Value} {news : List (Addr × PySem.Obj)} {s : Shared}
    {Q E : PySem.Value → Shared → Prop}
noncomputable def scanPs (lc : Addr) (st : Sc) (tb tn tt : Tok) : List (PySem.Str × PySem.Value) := [(Str.ofString "count", .ref lc), (Str.ofString "b", .int st.b tb), (Str.ofString "n", .int st.n tn), (Str.ofString "nt", .int st.nt tt)]
noncomputable def scanJ (rs : List Int) (m₀ : PySem.Str → Option PySem.Value) (cst : List (Addr × PySem.Obj)) (i : Nat) (m : PySem.Str → Option PySem.Value) (nx : List (Addr × PySem.Obj)) : Prop :=
  ∃ (lc : Addr) (vsC : List PySem.Value) (eC : Nat) (st : Sc) (tb tn tt : Tok) (rest : List (Addr × PySem.Obj)), nx = (lc, listOf vsC.toArray eC) :: rest ∧ rest = cst ∧ (∀ p ∈ rest, p.1 < lc) ∧ IntsAre vsC st.ns ∧
    (∀ p ∈ scanPs lc st tb tn tt, m p.1 = some p.2) ∧ (∀ z, z ≠ Str.ofString "ch" → (∀ p ∈ scanPs lc st tb tn tt, z ≠ p.1) → ([] : List PySem.Str).contains z = false → m z = m₀ z) ∧ i ≤ (charsOf rs).length ∧ st = ((charsOf rs).take i).foldl Sc.step ⟨[], 0, 0, 0⟩
theorem my_scan {prog : PySem.Program} {w : World} {A : Around} {E : PySem.Value → Shared → Prop} {s : Shared} {env : Env} {h₀ : Heap} {body : List Stmt} {Q : Flow → Shared → Prop} {rs : List Int} {t : Tok} {m : PySem.Str → Option PySem.Value} {cst : List (Addr × PySem.Obj)} {lc : Addr} {tb tn tt : Tok}
    (hb : ∀ r ∈ rs, 0 ≤ r ∧ r ≤ 12) (hh : A.handled = none) (F : Fr h₀ env.locals s.heap m) (N : News h₀ env.locals s.heap ((lc, listOf ([] : List PySem.Value).toArray 0) :: cst)) (hlc : ∀ p ∈ cst, p.1 < lc)
    (hps : ∀ p ∈ scanPs lc ⟨[], 0, 0, 0⟩ tb tn tt, m p.1 = some p.2)
    (turn : ∀ i c u m₁ nx h tk own, (PySem.Txt.join (Str.ofString "") (rs.map lineOf) ++ Str.ofString "x \t").cps[i]? = some c → OwnOff own (nx.map (·.1)) → scanJ rs m cst i m₁ nx → Fr h₀ env.locals h (fun y => if y = Str.ofString "ch" then some (.str ⟨#[c]⟩ u) else m₁ y) → News h₀ env.locals h (nx ++ own) →
      wpAny (model prog w) A (execs body env) (InvPostG h₀ env.locals (scanJ rs m cst (i + 1)) own { s with heap := h, toks := tk } Q) E { s with heap := h, toks := tk }) :
    wpAny (model prog w) A (pyIter (.str (PySem.Txt.join (Str.ofString "") (rs.map lineOf) ++ Str.ofString "x \t") t)) (fun it s₂ => LoopAtV prog w A h₀ env (Str.ofString "ch") body Q E it s₂) E s := by
  refine my_str (scanJ rs m cst) hh F N ⟨lc, [], 0, ⟨[], 0, 0, 0⟩, tb, tn, tt, cst, rfl, rfl, hlc, .nil, hps, fun _ _ _ _ => rfl, Nat.zero_le _, rfl⟩ turn ?_
  rintro m₁ nx h tk ⟨lc, vsC, eC, st, tb, tn, tt, rest, _, _, _, _, _, _, hiK, _⟩
  rw [text_size hb] at hiK
  lia
theorem sub1 {x : Addr × PySem.Obj} {a b : List (Addr × PySem.Obj)} : ∀ p ∈ x :: a, p ∈ x :: (a ++ b) := fun p hp => (List.mem_cons.mp hp).elim (fun h => List.mem_cons.mpr (.inl h)) fun h => List.mem_cons.mpr (.inr (List.mem_append.mpr (.inl h)))
theorem sub2 {x : Addr × PySem.Obj} {a b : List (Addr × PySem.Obj)} : ∀ p ∈ b, p ∈ x :: (a ++ b) := fun p hp => List.mem_cons.mpr (.inr (List.mem_append.mpr (.inr hp)))
section
variable {rs : List Int} {m₀ m' : PySem.Str → Option PySem.Value} {cst rest own : List (Addr × PySem.Obj)} {i : Nat} {st : Sc} {lc D : Addr} {o : PySem.Obj} {vsN : List PySem.Value} {eN : Nat} {tb tn tt : Tok} {h₀ h' : Heap} {L : Addr} {s₁ : Shared} {tk : Nat} {x y z : Addr × PySem.Obj} {a1 a2 a3 : Nat} {ns' : List Int}
theorem scan_end3 (F : Fr h₀ L h' m') (N : News h₀ L h' ((D, listOf vsN.toArray eN) :: x :: y :: z :: (rest ++ own))) (hl : a1 < D ∧ a2 < D ∧ a3 < D ∧ AllLt D (rest ++ own)) (hoff : OwnOff own (((lc, o) :: rest).map (·.1))) (hrest : rest = cst)
    (hi' : IntsAre vsN ns') (hns : ns' = bump st.ns st.b) (hps : ∀ p ∈ scanPs D ⟨bump st.ns st.b, 0, st.n + 1, st.nt + 1⟩ tb tn tt, m' p.1 = some p.2) (hsame : ∀ z, z ≠ Str.ofString "ch" → (∀ p ∈ scanPs D ⟨bump st.ns st.b, 0, st.n + 1, st.nt + 1⟩ tb tn tt, z ≠ p.1) → ([] : List PySem.Str).contains z = false → m' z = m₀ z)
    (hlt : i < (charsOf rs).length) (htk : (charsOf rs).take (i + 1) = (charsOf rs).take i ++ [9]) (hst : st = ((charsOf rs).take i).foldl Sc.step ⟨[], 0, 0, 0⟩) :
    InvEndG h₀ L (scanJ rs m₀ cst (i + 1)) own s₁ { s₁ with heap := h', toks := tk } := by
  have hall := allLt_out hl.2.2.2
  refine InvEndG.intro (nx := (D, listOf vsN.toArray eN) :: rest) F N ⟨D, vsN, eN, ⟨bump st.ns st.b, 0, st.n + 1, st.nt + 1⟩, tb, tn, tt, rest, rfl, hrest, fun p hp => hall p (List.mem_append.mpr (.inl hp)), hns ▸ hi', hps, hsame, hlt, ?_⟩ ?_ ?_ ?_
  · rw [htk, List.foldl_append, ← hst]; rfl
  · intro p hp b hb
    rcases List.mem_cons.mp hb with rfl | hb
    · exact Nat.ne_of_lt (hall p (List.mem_append.mpr (.inr hp)))
    · exact hoff p hp b (.tail _ hb)
  · intro p hp
    rcases List.mem_cons.mp hp with rfl | hp
    · exact .head _
    · exact .tail _ (.tail _ (.tail _ (.tail _ (List.mem_append.mpr (.inl hp)))))
  · intro p hp
    exact .tail _ (.tail _ (.tail _ (.tail _ (List.mem_append.mpr (.inr hp)))))
theorem scan_end0 (F : Fr h₀ L h' m') (N : News h₀ L h' ((lc, listOf vsN.toArray eN) :: (rest ++ own))) (hlc : ∀ p ∈ rest, p.1 < lc) (hoff : OwnOff own (((lc, o) :: rest).map (·.1))) (hrest : rest = cst)
    (hi' : IntsAre vsN ns') (hns : ns' = bump st.ns st.b) (hps : ∀ p ∈ scanPs lc ⟨bump st.ns st.b, 0, st.n + 1, st.nt + 1⟩ tb tn tt, m' p.1 = some p.2) (hsame : ∀ z, z ≠ Str.ofString "ch" → (∀ p ∈ scanPs lc ⟨bump st.ns st.b, 0, st.n + 1, st.nt + 1⟩ tb tn tt, z ≠ p.1) → ([] : List PySem.Str).contains z = false → m' z = m₀ z)
    (hlt : i < (charsOf rs).length) (htk : (charsOf rs).take (i + 1) = (charsOf rs).take i ++ [9]) (hst : st = ((charsOf rs).take i).foldl Sc.step ⟨[], 0, 0, 0⟩) :
    InvEndG h₀ L (scanJ rs m₀ cst (i + 1)) own s₁ { s₁ with heap := h', toks := tk } :=
  InvEndG.intro (nx := (lc, listOf vsN.toArray eN) :: rest) F N ⟨lc, vsN, eN, ⟨bump st.ns st.b, 0, st.n + 1, st.nt + 1⟩, tb, tn, tt, rest, rfl, hrest, hlc, hns ▸ hi', hps, hsame, hlt, by rw [htk, List.foldl_append, ← hst]; rfl⟩ hoff sub1 sub2
end
theorem news_left {h₀ h : Heap} {L : Addr} {a b : List (Addr × PySem.Obj)} (N : News h₀ L h (a ++ b)) : News h₀ L h a := fun p hp => N p (List.mem_append.mpr (.inl hp))
theorem news_drop2 {h₀ h : Heap} {L : Addr} {a b : Addr × PySem.Obj} {l : List (Addr × PySem.Obj)} (N : News h₀ L h (a :: b :: l)) : News h₀ L h (a :: l) := fun p hp => N p (by
  rcases List.mem_cons.mp hp with h1 | h1
  · rw [h1]; exact .head _
  · exact .tail _ (.tail _ h1))
theorem lines_len {rs : List Int} (hb : ∀ r ∈ rs, 0 ≤ r ∧ r ≤ 12) : ∀ a ∈ rs, (lineOf a).length ≤ 13 := fun a ha => by
  have := hb a ha
  rw [lineOf_len this]; lia
local macro_rules | `(tactic| walk_at "call builtin:str.join") => `(tactic| (k_here; (with_reducible show wpAny _ _ (call (Value.builtin "str.join") [Value.str _ _, Value.ref _]) _ _ _); (with_reducible rename CarriedAll _ (List.map _ _) => ktC); (refine KT.join_B 13 (by is_list) ktC (lines_len (by assumption)) (by lia) (by decide) ?_; intro _ _)))
local macro_rules | `(tactic| walk_at "newTuple") => `(tactic| (k_here; k_dflt (refine' kup_newTuple (by k_asm) (by k_asm) ?_ (by kmk_size)); intro D' h' F' N' l1; (try k_lt l1); (try k_sweep)))
local macro_rules | `(tactic| walk_at "call type:tuple") => `(tactic| (k_here; (with_reducible show wpAny _ _ (call (Value.type _) [Value.ref _]) _ _ _); k_dflt (refine' kde_tupleOf (by k_asm) (by k_asm) (by exact News.isList (by k_asm) (by k_mem)) (by ((have hL9 := IntsAre.length (by assumption)); rw [List.size_toArray]; lia)) (by rfl) ?_; k_whole); intro D' h' F' N' l1; (try k_lt l1); (try k_sweep)))
theorem ws_ret {w : World} {h₀ h' : Heap} {L : Addr} {m : PySem.Str → Option PySem.Value} {s : Shared} {Q : PySem.Value → Shared → Prop} {news : List (Addr × PySem.Obj)} {rs : List Int} {tk' : Nat} {nr D x d a5 a6 : Addr} {p5 p6 : PySem.Obj} {vsC : List PySem.Value} {t1 t2 t3 t4 t5 tn tb : Tok} {raw n simple : PySem.Value} {e1 e2 : Nat} {A1 A2 A3 A4 A5 B1 B2 B3 B4 C1 : Prop}
    (hret : ∀ (x : Addr) (tl : List (Addr × PySem.Obj)) h' tk', Fr h₀ L h' m → News h₀ L h' (tl ++ news) → (∀ p ∈ tl, ∀ q ∈ news, q.1 < p.1) → WsAt w.params tl x (histL rs) rs.length → Q (.ref x) { s with heap := h', toks := tk' })
    (F : Fr h₀ L h' m) (N : News h₀ L h' ((nr, tupO [.ref D, .int 0 tb] e1) :: (D, tupO vsC e2) :: (a5, p5) :: (x, instObj 207 d) :: (d, dictOf (wsEs w.params t1 t2 t3 t4 t5 raw n (.int rs.length tn) (.ref nr) simple) 5) :: (a6, p6) :: news))
    (f1 : A1 ∧ A2 ∧ A3 ∧ A4 ∧ A5 ∧ AllLt nr news) (f2 : B1 ∧ B2 ∧ B3 ∧ B4 ∧ AllLt D news) (f3 : C1 ∧ AllLt d news) (f4 : @LT.lt Nat _ d x) (hi : IntsAre vsC (histL rs)) (hl : (histL rs).length ≤ 20) : Q (.ref x) { s with heap := h', toks := tk' } := by
  refine hret x [(nr, tupO [.ref D, .int 0 tb] e1), (D, tupO vsC e2), (x, instObj 207 d), (d, dictOf (wsEs w.params t1 t2 t3 t4 t5 raw n (.int rs.length tn) (.ref nr) simple) 5)] h' tk' F (fun p hp => N p ?_) ?_ ⟨d, nr, D, vsC, t1, t2, t3, t4, t5, tn, tb, raw, n, simple, e1, e2, .tail _ (.tail _ (.head _)), .tail _ (.tail _ (.tail _ (.head _))), .head _, .tail _ (.head _), hi, hl⟩
  · simp only [List.cons_append, List.nil_append, List.mem_cons] at hp ⊢
    rcases hp with h | h | h | h | h
    · exact .inl h
    · exact .inr (.inl h)
    · exact .inr (.inr (.inr (.inl h)))
    · exact .inr (.inr (.inr (.inr (.inl h))))
    · exact .inr (.inr (.inr (.inr (.inr (.inr h)))))
  · intro p hp q hq
    have g1 := allLt_out f1.2.2.2.2.2 q hq
    have g2 := allLt_out f2.2.2.2.2 q hq
    have g3 := allLt_out f3.2 q hq
    simp only [List.mem_cons, List.not_mem_nil, or_false] at hp
    rcases hp with h | h | h | h <;> subst h
    · exact g1
    · exact g2
    · exact Nat.lt_trans g3 f4
    · exact g3
theorem histL_len {rs : List Int} (hb : ∀ r ∈ rs, 0 ≤ r ∧ r ≤ 12) : (histL rs).length ≤ 20 := by
  unfold histL
  have : ∀ (rs : List Int) (ns : List Int), (∀ r ∈ rs, 0 ≤ r ∧ r ≤ 12) → ns.length ≤ 20 → (rs.foldl (fun ns r => bump ns r.toNat) ns).length ≤ 20 := by
    intro rs
    induction rs with
    | nil => intro ns _ h; exact h
    | cons r rs ih =>
      intro ns hb h
      rw [List.foldl_cons]
      refine ih _ (fun x hx => hb x (.tail _ hx)) ?_
      have := hb r (.head _)
      rw [bump_length]; lia
  exact this rs [] hb (Nat.zero_le _)
theorem lead_spec {rl : Addr} {vs : List PySem.Value} {rs : List Int} {ne : Nat}
    (B : Below A₀ base outer h₀) (F : Fr h₀ L s.heap m) (X : (hd0.heap_1 w.params).In h₀) (N : News h₀ L s.heap news) (T : Top topProg LS mean mg mb h₀) (hk : cs.kind = .function)
    (hv : (rl, listOf vs.toArray ne) ∈ news) (hi : IntsAre vs rs) (hb : ∀ r ∈ rs, 0 ≤ r ∧ r ≤ 12) (hlen : rs.length ≤ 4)
    (hd : dp + 6 < recursionLimit) (hu : un + 80 < cLine)
    (hret : ∀ (x : Addr) (tl : List (Addr × PySem.Obj)) h' tk', Fr h₀ L h' m → News h₀ L h' (tl ++ news) → (∀ p ∈ tl, ∀ q ∈ news, q.1 < p.1) → WsAt w.params tl x (histL rs) rs.length → Q (.ref x) { s with heap := h', toks := tk' }) :
    wpAny (model PG w) (ktrTop dp un gd cn cs L a ccd cl outer) (call (.ref 216) [.ref rl]) Q E s := by
  refine wpAny_call ?_
  k_dflt cell_enter
  iterate 13 (first | walk1 | (dsimp only; walk1))
  k_dflt (refine LCg.ListComp_U (F₀ := by k_asm) (by with_unfolding_all rfl) (by decide) (by rfl) (by decide) (by rfl) ?_)
  walk1
  k_dflt (refine LCg.CompSrc.ledger (by rfl) (by k_asm) (by k_asm) (by k_mem) ?hsz ?_)
  case hsz => show vs.toArray.size ≤ sizeLine; rw [List.size_toArray, hi.length, sizeLine_eq]; lia
  intro g9
  k_dflt (refine' kct_list lineOf hi (fun k' t' I' oI' C' oC' D' m' ys' h' tk' E' hk' hC' hx' F' N' off' ne' mk => ?_) ?_)
  · have hb' := hb _ hk'
    k_steps
    refine LCg.CompEnd.intro (by assumption) (by assumption) news (fun p hp => hp) (by assumption) (.inr ⟨_, by k_mem, rfl, _, rfl⟩) (kct_el rfl rfl rfl)
  · unfold KPfDone
    intro ys hcar hn9
    have hjl := join_len hb hlen
    k_steps
    rename Fr _ _ _ _ => F2
    rename News _ _ _ _ => N2
    replace N2 := news_drop2 N2
    with_unfolding_all refine' my_scan hb (by rfl) F2 N2 (allLt_out (And.right (by assumption))) ?hps ?turn
    case hps => unfold scanPs; kst_all
    case turn =>
      rintro i c u m₁ nx h tk own hc hoff ⟨lc, vsC, eC, st, tb, tn, tt, rest, rfl, hrest, hlc, hi9, h1, h2, hiK, hst⟩ F1 N1
      have F1' := kst_fr h1 h2 F1
      clear F1 F2
      have kMark := kdMark
      have kMark2 := kstMark
      have hbd := fold_bounds ((charsOf rs).take i) ⟨[], 0, 0, 0⟩
      rw [← hst] at hbd
      have hcl := charsOf_len hb
      have htl : ((charsOf rs).take i).length ≤ 52 := by rw [List.length_take]; lia
      have hbn : st.b ≤ 52 ∧ st.ns.length ≤ 53 := by simp only [List.length_nil] at hbd; lia
      clear hbd hcl htl
      dsimp only [scanPs, kstB] at F1'
      rcases text_at hb hc hiK with ⟨hlt, hcc, htk⟩ | ⟨hiE, hcE⟩
      · rcases hcc with hcE | hcE
        · subst hcE
          dsimp only [List.cons_append] at N1
          (try k_fold)
          k_steps
          refine' InvEndG.intro (nx := (lc, _) :: rest) (by assumption) (by assumption) ⟨lc, vsC, eC, ⟨st.ns, st.b + 1, st.n + 1, st.nt⟩, _, _, _, rest, rfl, hrest, hlc, hi9, ?ps, ?same, by lia, ?st⟩ hoff sub1 sub2
          case ps => unfold scanPs; kst_all
          case same => unfold scanPs; kst_same
          case st => rw [htk, List.foldl_append, ← hst]; rfl
        · subst hcE
          dsimp only [List.cons_append] at N1
          (try k_fold)
          k_steps
          · refine' scan_end3 (by assumption) (by assumption) (by assumption) hoff hrest (by assumption) (bump_yes (by assumption)) ?ps ?same hlt htk hst
            case ps => unfold scanPs; kst_all
            case same => unfold scanPs; kst_same
          · refine' scan_end0 (by assumption) (by assumption) hlc hoff hrest (by assumption) (bump_no (by assumption)) ?ps ?same hlt htk hst
            case ps => unfold scanPs; kst_all
            case same => unfold scanPs; kst_same
      · subst hcE
        have hst2 : st = ⟨histL rs, 0, (charsOf rs).length, rs.length⟩ := by rw [hst, hiE, List.take_length]; exact fold_all rs
        clear hst
        subst hst2
        have N3 := news_left N1
        clear N1
        have hlc' := allLt_of hlc
        clear hlc hoff
        subst hrest
        simp only [AllLt, and_true] at hlc'
        dsimp only at F1' hi9 hbn
        (try k_fold)
        k_steps
        refine ws_ret (Q := Q) hret (by assumption) (by assumption) (by assumption) (by assumption) (by assumption) (by assumption) hi9 (histL_len hb)
end
end
theorem kw_C5a : True := (by k_with_none; w_top off; exact trivial)
section
open PySem PySem.W PyProof.Rows
open Lean Elab Tactic Meta
theorem fill5 : PySem.Challenge.rw_sr0071_01 = PySem.Challenge.rw_sr0071_01 ∧ hd0.heap_1 = hd0.heap_1 := by k_fill; exact ⟨rfl, rfl⟩
section
variable {prog : PySem.Program} {w : World} {A : Around} {E : PySem.Value → Shared → Prop} {s : Shared} {Q : PySem.Value → Shared → Prop} {a n r : Int} {t u : Tok}
theorem rsh_eq (hn : 0 ≤ n) (e : a.fdiv (2 ^ n.toNat) = r) (h : Q (.int r s.toks) { s with toks := s.toks + 1 }) : wpAny (model prog w) A (binaryOp .RShift (.int a t) (.int n u)) Q E s := rshift_int hn (e ▸ h)
theorem lsh_eq (hn : 0 ≤ n) (hn2 : n ≤ 1000) (ha : 0 ≤ a ∧ a < 2 ^ 60) (e : a * 2 ^ n.toNat = r) (h : Q (.int r s.toks) { s with toks := s.toks + 1 }) : wpAny (model prog w) A (binaryOp .LShift (.int a t) (.int n u)) Q E s :=
  lshift_int_small hn (by lia) (by lia) (e ▸ h)
theorem xor_eq {b : Int} (e : Builtin.bitXor a b = r) (h : Q (.int r s.toks) { s with toks := s.toks + 1 }) : wpAny (model prog w) A (binaryOp .BitXor (.int a t) (.int b u)) Q E s := xor_int (e ▸ h)
theorem mul_eq {b : Int} (hb : 0 ≤ b ∧ b < 1000) (e : a * b = r) (h : Q (.int r s.toks) { s with toks := s.toks + 1 }) : wpAny (model prog w) A (binaryOp .Mult (.int a t) (.int b u)) Q E s := mul_int (e ▸ h) (PySem.IntMulOk.of_right (PySem.intBits_le_64 (by lia) (by lia)))
end
/-- inner of _int2digits: what a call of it does -/
noncomputable def InnerC (w : World) (mean : ExcName → Option PySem.Value) (mg mb : PySem.Str → Option PySem.Value) (f dl : Addr) (news : List (Addr × PySem.Obj)) (n k : Nat) : Prop :=
  ∀ (dp un : Nat) (gd : Option (List Code)) (cn : PySem.Str) (cs : Scope) (a : Addr) (ccd : PySem.Value) (cl : List (PySem.Str × Addr)) (outer : List Env) (A₀ : Around) (base h₀ : Heap) (L : Addr) (m : PySem.Str → Option PySem.Value) (s : Shared) (Q E : PySem.Value → Shared → Prop)
    (vs : List PySem.Value) (e : Nat) (ds : List Int) (x lo hi cnt : Nat) (xi li ri : Int) (tx tl th : Tok), xi = (x : Int) → li = (lo : Int) → ri = (hi : Int) →
    Below A₀ base outer h₀ → Fr h₀ L s.heap m → (hd0.heap_1 w.params).In h₀ → News h₀ L s.heap ((dl, listOf vs.toArray e) :: news) → Top topProg LS mean mg mb h₀ → CodeHd h₀ 123 119 → cs.kind = .function →
    IntsAre vs ds → hi = lo + cnt → 1 ≤ cnt → cnt ≤ k → hi ≤ ds.length → ds.length ≤ 7 → x < 2 ^ (cnt * n) → dp + k + 1 < recursionLimit → un + 16 * k + 16 < cLine →
    (∀ vs' e' h' tk', Fr h₀ L h' m → News h₀ L h' ((dl, listOf vs'.toArray e') :: news) → IntsAre vs' (putD n cnt ds lo x) → Q .none { s with heap := h', toks := tk' }) →
    wpAny (model PG w) (ktrTop dp un gd cn cs L a ccd cl outer) (call (.ref f) [.int xi tx, .int li tl, .int ri th]) Q E s
theorem inner_ind {w : World} {mean : ExcName → Option PySem.Value} {mg mb : PySem.Str → Option PySem.Value} {f dl : Addr} {news : List (Addr × PySem.Obj)} {n : Nat} (step : ∀ k, InnerC w mean mg mb f dl news n k → InnerC w mean mg mb f dl news n (k + 1)) : ∀ k, InnerC w mean mg mb f dl news n k
  | 0 => by
    unfold InnerC
    intros
    omega
  | k + 1 => step k (inner_ind step k)
theorem inner_use_g {w : World} {mean : ExcName → Option PySem.Value} {mg mb : PySem.Str → Option PySem.Value} {dp un : Nat} {gd : Option (List Code)} {cn : PySem.Str} {cs : Scope} {a : Addr} {ccd : PySem.Value} {cl : List (PySem.Str × Addr)} {outer : List Env} {A₀ : Around} {base h₀ : Heap} {L : Addr} {m : PySem.Str → Option PySem.Value} {s : Shared} {Q E : PySem.Value → Shared → Prop}
    {f dl : Addr} {all : List (Addr × PySem.Obj)} {g : PySem.Obj → List (Addr × PySem.Obj)} {vs : List PySem.Value} {e : Nat} {ds : List Int} {x lo hi cnt n k : Nat} {xi li ri : Int} {tx tl th : Tok} (ex : xi = (x : Int)) (el : li = (lo : Int)) (er : ri = (hi : Int)) (hn : 1 ≤ n ∧ n ≤ 4) (hi' : IntsAre vs ds) (M : (dl, listOf vs.toArray e) ∈ all)
    (B : Below A₀ base outer h₀) (F : Fr h₀ L s.heap m) (X : (hd0.heap_1 w.params).In h₀) (N : News h₀ L s.heap all) (U : UpdF dl (listOf vs.toArray e) all g) (T : Top topProg LS mean mg mb h₀) (C : CodeHd h₀ 123 119) (hk : cs.kind = .function)
    (h1 : hi = lo + cnt) (h2 : 1 ≤ cnt) (h3 : cnt ≤ k) (h4 : hi ≤ ds.length) (h5 : ds.length ≤ 7) (h6 : x < 2 ^ (cnt * n)) (hd : dp + k + 1 < recursionLimit) (hu : un + 16 * k + 16 < cLine)
    (step : ∀ news, (∀ p ∈ all, p.1 ≠ dl → p ∈ news) → (∀ p ∈ news, p.1 ≠ dl) → ∀ k, InnerC w mean mg mb f dl news n k → InnerC w mean mg mb f dl news n (k + 1))
    (hret : ∀ vs' e' h' tk', Fr h₀ L h' m → News h₀ L h' (g (listOf vs'.toArray e')) → IntsAre vs' (putD n cnt ds lo x) → Q .none { s with heap := h', toks := tk' }) :
    wpAny (model PG w) (ktrTop dp un gd cn cs L a ccd cl outer) (call (.ref f) [.int xi tx, .int li tl, .int ri th]) Q E s := by
  obtain ⟨pre, post, rfl, hg, a1, a2⟩ := U.split
  have key : ∀ p ∈ pre ++ post, p.1 ≠ dl := fun p hp => (List.mem_append.mp hp).elim (a1 p) (a2 p)
  refine inner_ind (step (pre ++ post) (fun p hp hne => ?_) key) k dp un gd cn cs a ccd cl outer A₀ base h₀ L m s Q E vs e ds x lo hi cnt xi li ri tx tl th ex el er B F X (fun p hp => ?_) T C hk hi' h1 h2 h3 h4 h5 h6 hd hu (fun vs' e' h' tk' F' N' i' => hret vs' e' h' tk' F' (fun p hp => ?_) i')
  · rcases List.mem_append.mp hp with h | h
    · exact List.mem_append.mpr (.inl h)
    · rcases List.mem_cons.mp h with rfl | h
      · exact absurd rfl hne
      · exact List.mem_append.mpr (.inr h)
  · rcases List.mem_cons.mp hp with rfl | h
    · exact N _ (List.mem_append.mpr (.inr (.head _)))
    · rcases List.mem_append.mp h with h | h
      · exact N _ (List.mem_append.mpr (.inl h))
      · exact N _ (List.mem_append.mpr (.inr (.tail _ h)))
  · rw [hg] at hp
    rcases List.mem_append.mp hp with h | h
    · exact N' _ (.tail _ (List.mem_append.mpr (.inl h)))
    · rcases List.mem_cons.mp h with rfl | h
      · exact N' _ (.head _)
      · exact N' _ (.tail _ (List.mem_append.mpr (.inr h)))
theorem inner_use7 {w : World} {mean : ExcName → Option PySem.Value} {mg mb : PySem.Str → Option PySem.Value} {dp un : Nat} {gd : Option (List Code)} {cn : PySem.Str} {cs : Scope} {a : Addr} {ccd : PySem.Value} {cl : List (PySem.Str × Addr)} {outer : List Env} {A₀ : Around} {base h₀ : Heap} {L : Addr} {m : PySem.Str → Option PySem.Value} {s : Shared} {Q E : PySem.Value → Shared → Prop}
    {f dl : Addr} {all : List (Addr × PySem.Obj)} {g : PySem.Obj → List (Addr × PySem.Obj)} {vs : List PySem.Value} {e : Nat} {ds : List Int} {x hi cnt n : Nat} {xi li ri : Int} {tx tl th : Tok} (ex : xi = (x : Int)) (el : li = ((0 : Nat) : Int)) (er : ri = (hi : Int)) (hn : 1 ≤ n ∧ n ≤ 4) (hi' : IntsAre vs ds) (M : (dl, listOf vs.toArray e) ∈ all)
    (B : Below A₀ base outer h₀) (F : Fr h₀ L s.heap m) (X : (hd0.heap_1 w.params).In h₀) (N : News h₀ L s.heap all) (U : UpdF dl (listOf vs.toArray e) all g) (T : Top topProg LS mean mg mb h₀) (C : CodeHd h₀ 123 119) (hk : cs.kind = .function)
    (h1 : hi = 0 + cnt) (h2 : 1 ≤ cnt) (h3 : cnt ≤ 7) (h4 : hi ≤ ds.length) (h5 : ds.length ≤ 7) (h6 : x < 2 ^ (cnt * n)) (hd : dp + 7 + 1 < recursionLimit) (hu : un + 16 * 7 + 16 < cLine)
    (step : ∀ news, (∀ p ∈ all, p.1 ≠ dl → p ∈ news) → (∀ p ∈ news, p.1 ≠ dl) → ∀ k, InnerC w mean mg mb f dl news n k → InnerC w mean mg mb f dl news n (k + 1))
    (hret : ∀ vs' e' h' tk', Fr h₀ L h' m → News h₀ L h' (g (listOf vs'.toArray e')) → IntsAre vs' (putD n cnt ds 0 x) → Q .none { s with heap := h', toks := tk' }) :
    wpAny (model PG w) (ktrTop dp un gd cn cs L a ccd cl outer) (call (.ref f) [.int xi tx, .int li tl, .int ri th]) Q E s :=
  inner_use_g ex el er hn hi' M B F X N U T C hk h1 h2 h3 h4 h5 h6 hd hu step hret
theorem split_facts {x lo hi cnt n : Nat} (hn : 1 ≤ n ∧ n ≤ 4) (h1 : hi = lo + cnt) (h2 : 1 ≤ cnt) (hc : cnt ≠ 1) (h7 : cnt ≤ 7) (h6 : x < 2 ^ (cnt * n)) :
    ∃ c : Nat, (1 ≤ c ∧ c < cnt ∧ 1 ≤ cnt - c ∧ cnt - c < cnt ∧ hi = lo + c + (cnt - c) ∧ lo + c ≤ hi) ∧ ((lo : Int) + (hi : Int)).fdiv (2 ^ (1 : Int).toNat) = ((lo + c : Nat) : Int) ∧ (((lo + c : Nat) : Int) - (lo : Int)) * (n : Int) = ((c * n : Nat) : Int) ∧ (0 ≤ ((c * n : Nat) : Int) ∧ ((c * n : Nat) : Int) ≤ 1000) ∧
      (x : Int).fdiv (2 ^ ((c * n : Nat) : Int).toNat) = ((x / 2 ^ (c * n) : Nat) : Int) ∧ (0 ≤ ((x / 2 ^ (c * n) : Nat) : Int) ∧ ((x / 2 ^ (c * n) : Nat) : Int) < 2 ^ 60) ∧
      ((x / 2 ^ (c * n) : Nat) : Int) * 2 ^ ((c * n : Nat) : Int).toNat = ((x / 2 ^ (c * n) * 2 ^ (c * n) : Nat) : Int) ∧
      Builtin.bitXor (x : Int) ((x / 2 ^ (c * n) * 2 ^ (c * n) : Nat) : Int) = ((x % 2 ^ (c * n) : Nat) : Int) ∧
      x % 2 ^ (c * n) < 2 ^ (c * n) ∧ x / 2 ^ (c * n) < 2 ^ ((cnt - c) * n) ∧
      (∀ ds : List Int, putD n (cnt - c) (putD n c ds lo (x % 2 ^ (c * n))) (lo + c) (x / 2 ^ (c * n)) = putD n cnt ds lo x) := by
  refine ⟨cnt / 2, ⟨by lia, by lia, by lia, by lia, by lia, by lia⟩, mid_eq lo hi cnt h1, shift_eq lo (cnt / 2) n, ⟨Int.natCast_nonneg _, ?_⟩, fdiv_pow x _, ⟨Int.natCast_nonneg _, ?_⟩, mul_pow _ _, xor_low x _, Nat.mod_lt _ (Nat.pow_pos (by decide)), ?_, fun ds => ?_⟩
  · have : cnt / 2 * n ≤ 3 * 4 := Nat.mul_le_mul (by lia) hn.2
    lia
  · have a1 : x / 2 ^ (cnt / 2 * n) ≤ x := Nat.div_le_self _ _
    have a2 : cnt * n ≤ 7 * 4 := Nat.mul_le_mul h7 hn.2
    have a3 : 2 ^ (cnt * n) ≤ 2 ^ 28 := Nat.pow_le_pow_right (by decide) a2
    have a4 : (2 : Nat) ^ 28 < 2 ^ 60 := by decide
    have a5 : x / 2 ^ (cnt / 2 * n) < 2 ^ 60 := by lia
    exact_mod_cast a5
  · refine Nat.div_lt_of_lt_mul ?_
    rw [← Nat.pow_add, ← Nat.add_mul, show cnt / 2 + (cnt - cnt / 2) = cnt from by lia]
    exact h6
  · rw [← putD_add, show cnt / 2 + (cnt - cnt / 2) = cnt from by lia]
theorem inner_use_ih {w : World} {mean : ExcName → Option PySem.Value} {mg mb : PySem.Str → Option PySem.Value} {dp un : Nat} {gd : Option (List Code)} {cn : PySem.Str} {cs : Scope} {a : Addr} {ccd : PySem.Value} {cl : List (PySem.Str × Addr)} {outer : List Env} {A₀ : Around} {base h₀ : Heap} {L : Addr} {m : PySem.Str → Option PySem.Value} {s : Shared} {Q E : PySem.Value → Shared → Prop}
    {f dl : Addr} {news : List (Addr × PySem.Obj)} {vs : List PySem.Value} {e : Nat} {ds : List Int} {x lo hi cnt n k : Nat} {xi li ri : Int} {tx tl th : Tok} (IH : InnerC w mean mg mb f dl news n k) (ex : xi = (x : Int)) (el : li = (lo : Int)) (er : ri = (hi : Int))
    (B : Below A₀ base outer h₀) (F : Fr h₀ L s.heap m) (X : (hd0.heap_1 w.params).In h₀) (N : News h₀ L s.heap ((dl, listOf vs.toArray e) :: news)) (T : Top topProg LS mean mg mb h₀) (C : CodeHd h₀ 123 119) (hk : cs.kind = .function)
    (hi' : IntsAre vs ds) (h1 : hi = lo + cnt) (h2 : 1 ≤ cnt) (h3 : cnt ≤ k) (h4 : hi ≤ ds.length) (h5 : ds.length ≤ 7) (h6 : x < 2 ^ (cnt * n)) (hd : dp + k + 1 < recursionLimit) (hu : un + 16 * k + 16 < cLine)
    (hret : ∀ vs' e' h' tk', Fr h₀ L h' m → News h₀ L h' ((dl, listOf vs'.toArray e') :: news) → IntsAre vs' (putD n cnt ds lo x) → (putD n cnt ds lo x).length = ds.length → Q .none { s with heap := h', toks := tk' }) :
    wpAny (model PG w) (ktrTop dp un gd cn cs L a ccd cl outer) (call (.ref f) [.int xi tx, .int li tl, .int ri th]) Q E s :=
  IH dp un gd cn cs a ccd cl outer A₀ base h₀ L m s Q E vs e ds x lo hi cnt xi li ri tx tl th ex el er B F X N T C hk hi' h1 h2 h3 h4 h5 h6 hd hu (fun vs' e' h' tk' a b c => hret vs' e' h' tk' a b c (putD_len n cnt ds lo x))
theorem dig_facts0 : ∀ x : Fin 128, ∀ n : Fin 5, 1 ≤ n.val → ((((Builtin.Int.intBits (x.val : Int) : Int) + (n.val : Int) - 1).fdiv (n.val : Int)).toNat ≤ 7 ∧ x.val < 2 ^ ((((Builtin.Int.intBits (x.val : Int) : Int) + (n.val : Int) - 1).fdiv (n.val : Int)).toNat * n.val) ∧ ((x.val : Int) ≠ 0 → 1 ≤ (((Builtin.Int.intBits (x.val : Int) : Int) + (n.val : Int) - 1).fdiv (n.val : Int)).toNat)) := by decide +kernel
theorem dig_facts {x n : Nat} (hx : x < 128) (hn : 1 ≤ n ∧ n ≤ 4) : (((Builtin.Int.intBits (x : Int) : Int) + (n : Int) - 1).fdiv (n : Int)).toNat ≤ 7 ∧ x < 2 ^ ((((Builtin.Int.intBits (x : Int) : Int) + (n : Int) - 1).fdiv (n : Int)).toNat * n) ∧ ((x : Int) ≠ 0 → 1 ≤ (((Builtin.Int.intBits (x : Int) : Int) + (n : Int) - 1).fdiv (n : Int)).toNat) :=
  dig_facts0 ⟨x, hx⟩ ⟨n, by lia⟩ hn.1
theorem dig_zero0 : ∀ n : Fin 5, 1 ≤ n.val → (((Builtin.Int.intBits ((0 : Nat) : Int) : Int) + (n.val : Int) - 1).fdiv (n.val : Int)).toNat = 0 := by decide +kernel
theorem dig_nil {x n : Nat} (hx : x = 0) (hn : 1 ≤ n ∧ n ≤ 4) : (List.replicate (((Builtin.Int.intBits (x : Int) : Int) + (n : Int) - 1).fdiv (n : Int)).toNat [(0 : Int)]).flatten = putD n (((Builtin.Int.intBits (x : Int) : Int) + (n : Int) - 1).fdiv (n : Int)).toNat (List.replicate (((Builtin.Int.intBits (x : Int) : Int) + (n : Int) - 1).fdiv (n : Int)).toNat 0) 0 x := by
  subst hx
  rw [dig_zero0 ⟨n, by lia⟩ hn.1]
  rfl
theorem flat_len {α : Type} (N : Nat) (v : α) : (List.replicate N [v]).flatten.length = N := by simp
theorem flat_eq {α : Type} (N : Nat) (v : α) : (List.replicate N [v]).flatten = List.replicate N v := by
  induction N with
  | zero => rfl
  | succ k ih => rw [List.replicate_succ, List.flatten_cons, ih, List.replicate_succ]; rfl
/-- a code table that is empty, or holds the one record of its nested function -/
noncomputable def TabSt (q : PySem.Str) (a b : Int) (o : PySem.Obj) (news : List (Addr × PySem.Obj)) : Prop :=
  o = tabObj #[] ∨ ∃ c oc vs t, o = tabObj (#[] ++ #[rawInt a, rawInt b, .ref c]) ∧ (c, oc) ∈ news ∧ oc.data = .fields vs ∧ vs[1]? = some (.str q t)
section
variable {h₀ : Heap} {L : Addr} {m : PySem.Str → Option PySem.Value} {news : List (Addr × PySem.Obj)} {s : Shared} {Q : PySem.Value → Shared → Prop} {T₁ : Addr} {q : PySem.Str} {pa pb : Int} {ds : List Int}
theorem i2d_ret_miss {l c : Addr} {vs : List PySem.Value} {e : Nat} {oc : PySem.Obj} {cvs : Array PySem.Value} {ct : Tok} {all : List (Addr × PySem.Obj)} {h' : Heap} {tk' : Nat}
    (hret : ∀ (l : Addr) (vs : List PySem.Value) (e : Nat) (o' : PySem.Obj) (tl : List (Addr × PySem.Obj)) h' tk', Fr h₀ L h' m → News h₀ L h' ((T₁, o') :: (l, listOf vs.toArray e) :: (tl ++ news)) → (∀ p ∈ news, p.1 < l) → T₁ < l → TabSt q pa pb o' (tl ++ news) → (∀ p ∈ tl, (∀ q ∈ news, q.1 < p.1) ∧ l < p.1) → IntsAre vs ds → Q (.ref l) { s with heap := h', toks := tk' })
    (F : Fr h₀ L h' m) (N : News h₀ L h' all) (M1 : (T₁, tabObj (#[] ++ #[rawInt pa, rawInt pb, .ref c])) ∈ all) (M2 : (l, listOf vs.toArray e) ∈ all) (M3 : (c, oc) ∈ all) (M4 : ∀ p ∈ news, p ∈ all)
    (ol : ∀ p ∈ news, p.1 < l) (oT : T₁ < l) (oc' : l < c) (d1 : oc.data = .fields cvs) (d2 : cvs[1]? = some (.str q ct)) (i : IntsAre vs ds) : Q (.ref l) { s with heap := h', toks := tk' } := by
  refine hret l vs e _ [(c, oc)] h' tk' F (fun p hp => ?_) ol oT (.inr ⟨c, oc, cvs, ct, rfl, .head _, d1, d2⟩) (fun p hp => ?_) i
  · rcases List.mem_cons.mp hp with rfl | hp
    · exact N _ M1
    · rcases List.mem_cons.mp hp with rfl | hp
      · exact N _ M2
      · rcases List.mem_cons.mp hp with rfl | hp
        · exact N _ M3
        · exact N _ (M4 p hp)
  · rcases List.mem_cons.mp hp with rfl | hp
    · exact ⟨fun q hq => Nat.lt_trans (ol q hq) oc', oc'⟩
    · cases hp
theorem i2d_ret_hit {l c : Addr} {vs : List PySem.Value} {e : Nat} {oc : PySem.Obj} {cvs : Array PySem.Value} {ct : Tok} {all : List (Addr × PySem.Obj)} {h' : Heap} {tk' : Nat}
    (hret : ∀ (l : Addr) (vs : List PySem.Value) (e : Nat) (o' : PySem.Obj) (tl : List (Addr × PySem.Obj)) h' tk', Fr h₀ L h' m → News h₀ L h' ((T₁, o') :: (l, listOf vs.toArray e) :: (tl ++ news)) → (∀ p ∈ news, p.1 < l) → T₁ < l → TabSt q pa pb o' (tl ++ news) → (∀ p ∈ tl, (∀ q ∈ news, q.1 < p.1) ∧ l < p.1) → IntsAre vs ds → Q (.ref l) { s with heap := h', toks := tk' })
    (F : Fr h₀ L h' m) (N : News h₀ L h' all) (M1 : (T₁, tabObj (#[] ++ #[rawInt pa, rawInt pb, .ref c])) ∈ all) (M2 : (l, listOf vs.toArray e) ∈ all) (M3 : (c, oc) ∈ news) (M4 : ∀ p ∈ news, p ∈ all)
    (ol : ∀ p ∈ news, p.1 < l) (oT : T₁ < l) (d1 : oc.data = .fields cvs) (d2 : cvs[1]? = some (.str q ct)) (i : IntsAre vs ds) : Q (.ref l) { s with heap := h', toks := tk' } := by
  refine hret l vs e _ [] h' tk' F (fun p hp => ?_) ol oT (.inr ⟨c, oc, cvs, ct, rfl, M3, d1, d2⟩) (fun p hp => nomatch hp) i
  rcases List.mem_cons.mp hp with rfl | hp
  · exact N _ M1
  · rcases List.mem_cons.mp hp with rfl | hp
    · exact N _ M2
    · exact N _ (M4 p hp)
end
theorem dig_len {x n : Nat} (hx : x < 128) (hn : 1 ≤ n ∧ n ≤ 4) : 0 ≤ ((Builtin.Int.intBits (x : Int) : Int) + (n : Int) - 1).fdiv (n : Int) ∧ ((Builtin.Int.intBits (x : Int) : Int) + (n : Int) - 1).fdiv (n : Int) ≤ 7 := digN_rng (by lia) (by lia)
end
theorem kw_C5n : True := (by k_with_none; w_top off; exact trivial)
section
open PySem PySem.W PyProof.Rows
open Lean Elab Tactic Meta
noncomputable def Under (news : List (Addr × PySem.Obj)) (b : Addr) : Prop := ∀ p ∈ news, p.1 < b
section
variable {M : Model} {A : Around} {E : PySem.Value → Shared → Prop} {s : Shared} {h₀ : Heap} {L a c P : Addr} {m mg mb : PySem.Str → Option PySem.Value} {cn : PySem.Str} {cs : Scope} {ccd : PySem.Value} {cl : List (PySem.Str × Addr)} {news : List (Addr × PySem.Obj)} {g : PySem.Obj → List (Addr × PySem.Obj)}
  {p : PySem.Program} {loose : List PySem.Str} {mean : ExcName → Option PySem.Value} {name qual : PySem.Str} {params : Arguments} {body : List Stmt} {scope : Scope} {pos : PySem.Pos} {firstLine : Nat} {clos : List (PySem.Str × Addr)}
theorem nest_any {Q : PySem.Value → Shared → Prop} {news0 : List (Addr × PySem.Obj)} {o : PySem.Obj} {b : Addr} {pa pb : Int} {q : PySem.Str}
    (F : Fr h₀ L s.heap m) (N : News h₀ L s.heap news) (T : Top p loose mean mg mb h₀) (C : CodeHd h₀ c P) (hcd : ccd = .ref c) (U : UpdF P o news g)
    (S : TabSt q pa pb o news0) (hq : q = qual) (hpa : pa = (pos.line : Int)) (hpb : pb = (pos.col : Int)) (hsub : ∀ p ∈ news0, p ∈ news) (hb : Under news0 b)
    (hcl : closureFor scope (envX cn cs L a ccd cl) = pure clos)
    (h : ∀ f c' oc vs t ctv doc h' tk, Fr h₀ L h' m →
      News h₀ L h' ((f, fnMade name qual params body scope clos doc ((mg "__name__").getD .none) c' ctv) :: (c', oc) :: g (tabObj (#[] ++ #[rawInt pa, rawInt pb, .ref c']))) →
      oc.data = .fields vs → vs[1]? = some (.str qual t) → (∀ q ∈ news, q.1 < f) → c' < f → (AllLt c' news ∨ @LT.lt Nat _ c' b ∧ (c', oc) ∈ news0) → Q (.ref f) { s with heap := h', toks := tk }) :
    wpAny M A (makeFunction name qual params (.stmts body) scope (envX cn cs L a ccd cl) [] [] [] pos firstLine) Q E s := by
  subst hpa hpb hq
  rcases S with rfl | ⟨c9, oc, vs, t, rfl, m1, d1, d2⟩
  · exact nest_K F N T C hcd U trivial rfl hcl fun f c' oc vs t ctv doc h' tk F' N' e1 e2 l1 l2 => h f c' oc vs t ctv doc h' tk F' N' e1 e2 (fun q hq => Nat.lt_trans (l1 q hq) l2) l2 (.inl (allLt_of l1))
  · obtain ⟨own, rest, e, hgr, -, -⟩ := U.split
    refine nestHit_K F N T C hcd (by rw [e]; exact List.mem_append_right _ (.head _)) (by simp [TriplesOk, rawInt]) (c' := c9) (by simp [codeAmong, rawInt]) hcl fun f ctv doc h' tk F' N' l1 => ?_
    refine h f c9 oc vs t ctv doc h' tk F' (fun r hr => ?_) d1 d2 l1 (l1 _ (hsub _ m1)) (.inr ⟨hb _ m1, m1⟩)
    rcases List.mem_cons.mp hr with rfl | hr
    · exact N' _ (.head _)
    · rcases List.mem_cons.mp hr with rfl | hr
      · exact N' _ (.tail _ (hsub _ m1))
      · rw [hgr] at hr
        exact N' _ (.tail _ (e ▸ hr))
end
section
variable {h₀ : Heap} {L : Addr} {m : PySem.Str → Option PySem.Value} {news : List (Addr × PySem.Obj)} {s : Shared} {Q : PySem.Value → Shared → Prop} {T₁ : Addr} {q : PySem.Str} {pa pb : Int} {ds : List Int}
theorem i2d_ret_any {l c : Addr} {vs : List PySem.Value} {e : Nat} {oc : PySem.Obj} {cvs : Array PySem.Value} {ct : Tok} {all : List (Addr × PySem.Obj)} {h' : Heap} {tk' : Nat}
    (hret : ∀ (l : Addr) (vs : List PySem.Value) (e : Nat) (o' : PySem.Obj) (tl : List (Addr × PySem.Obj)) h' tk', Fr h₀ L h' m → News h₀ L h' ((T₁, o') :: (l, listOf vs.toArray e) :: (tl ++ news)) → (∀ p ∈ news, p.1 < l) → T₁ < l → TabSt q pa pb o' (tl ++ news) → (∀ p ∈ tl, (∀ q ∈ news, q.1 < p.1) ∧ l < p.1) → IntsAre vs ds → Q (.ref l) { s with heap := h', toks := tk' })
    (F : Fr h₀ L h' m) (N : News h₀ L h' all) (M1 : (T₁, tabObj (#[] ++ #[rawInt pa, rawInt pb, .ref c])) ∈ all) (M2 : (l, listOf vs.toArray e) ∈ all) (M3 : (c, oc) ∈ all) (M4 : ∀ p ∈ news, p ∈ all)
    (ol : ∀ p ∈ news, p.1 < l) (oT : T₁ < l) (d1 : oc.data = .fields cvs) (d2 : cvs[1]? = some (.str q ct)) (i : IntsAre vs ds) (hd : l < c ∨ (c, oc) ∈ news) : Q (.ref l) { s with heap := h', toks := tk' } := by
  rcases hd with hd | hd
  · exact i2d_ret_miss (Q := Q) hret F N M1 M2 M3 M4 ol oT hd d1 d2 i
  · exact i2d_ret_hit (Q := Q) hret F N M1 M2 hd M4 ol oT d1 d2 i
end
end
theorem kw_C5b : True := (by k_with_none; w_top off; exact trivial)
local macro_rules | `(tactic| walk_at "exec FunctionDef") => `(tactic| (k_here; kn_here; k_dflt (refine' nestDef_K (by exact rfl) (by exact rfl) (by exact rfl) ?_); (k_dflt (refine' nest_any (by k_asm) (by k_asm) (by k_asm) (by kn_code) (by exact rfl) (by k_updF) (by assumption) (by rfl) (by rfl) (by rfl) (by walk_at "sub") (by assumption) (by exact rfl) ?_; k_whole)); intro f' c' oc' vs' t' ct' dc' h' tk' F' N' d1' d2' l1 l2 l3; (try dsimp only at N'); (try k_lt l1); (try k_lt2 l2); (try simp only [AllLt, and_true] at l3)))
section
open PySem PySem.W PyProof.Rows
open Lean Elab Tactic Meta
theorem fill5b : PySem.Challenge.rw_sr0071_01 = PySem.Challenge.rw_sr0071_01 ∧ hd0.heap_1 = hd0.heap_1 := by k_fill; exact ⟨rfl, rfl⟩
section
variable {w : World} {mean : ExcName → Option PySem.Value} {mg mb : PySem.Str → Option PySem.Value} {dp un : Nat} {gd : Option (List Code)} {cn : PySem.Str} {cs : Scope} {a : Addr} {ccd : PySem.Value} {cl : List (PySem.Str × Addr)} {outer : List Env} {A₀ : Around} {base h₀ : Heap} {L : Addr} {m : PySem.Str → Option PySem.Value} {news : List (Addr × PySem.Obj)} {s : Shared}
    {Q E : PySem.Value → Shared → Prop}
local macro_rules | `(tactic| walk_at "call ref") => `(tactic| (k_here; kn_here; (show wpAny _ _ (call (Value.ref _) [Value.int _ _, Value.int _ _, Value.int _ _]) _ _ _); k_dflt ((refine' inner_use7 ?ex ?el ?er ?hn ?hi ?M ?B ?F ?X ?N ?U ?T ?C ?hk ?h1 ?h2 ?h3 ?h4 ?h5 ?h6 ?hd ?hu ?step ?_); (case hn => assumption); (case ex => rfl); (case el => rfl); (case B => k_asm); (case F => k_asm); (case X => k_asm); (case N => k_asm); (case T => k_asm); (case C => kn_code); (case hk => first | rfl | assumption); (case hi => assumption); (case M => k_mem); (case U => k_updF); (case er => rfl); (case h1 => exact (Nat.zero_add _).symm))))
local macro_rules | `(tactic| walk_at "call ref") => `(tactic| (k_here; kn_here; (show wpAny _ _ (call (Value.ref _) [Value.int _ _, Value.int _ _, Value.int _ _]) _ _ _); (have IHx := (by with_reducible assumption : InnerC _ _ _ _ _ _ _ _ _)); k_dflt ((refine' inner_use_ih IHx (by rfl) (by rfl) (by rfl) (by k_asm) (by k_asm) (by k_asm) (by k_asm) (by k_asm) (by kn_code) (by first | rfl | assumption) (by assumption) (by first | rfl | assumption) (by lia) (by lia) (by lia) (by lia) (by assumption) (by ktr_room) (by ktr_room) ?_); intro vs' e' h' tk' F' N' hi' hl'; (try dsimp only))))
local macro_rules | `(tactic| walk_at "binaryOp RShift int int") => `(tactic| (k_here; k_dflt (refine rsh_eq (by lia) (by assumption) ?_)))
local macro_rules | `(tactic| walk_at "binaryOp LShift int int") => `(tactic| (k_here; k_dflt (refine lsh_eq (by lia) (by lia) (by assumption) (by assumption) ?_)))
local macro_rules | `(tactic| walk_at "binaryOp BitXor int int") => `(tactic| (k_here; k_dflt (refine xor_eq (by assumption) ?_)))
local macro_rules | `(tactic| walk_at "binaryOp Mult int int") => `(tactic| (k_here; k_dflt (refine mul_eq (by lia) (by assumption) ?_)))
local macro_rules | `(tactic| walk_at "ite") => `(tactic| (k_here; k_openite; first | (refine ite_pos (by (simp only [decide_eq_true_eq, beq_iff_eq]; lia)) ?_) | (refine ite_neg (by (simp only [decide_eq_true_eq, beq_iff_eq]; lia)) ?_)))
theorem i2d_any {x n : Nat} {o : PySem.Obj} {tx tn : Tok}
    (B : Below A₀ base outer h₀) (F : Fr h₀ L s.heap m) (X : (hd0.heap_1 w.params).In h₀) (N : News h₀ L s.heap ((119, o) :: news)) (T : Top topProg LS mean mg mb h₀) (hk : cs.kind = .function)
    (C1 : CodeHd h₀ 123 119) (hn0 : ∀ p ∈ news, p.1 ≠ 119) (S : TabSt (Str.ofString "_int2digits.<locals>.inner") 71 4 o news)
    (hx : x < 128) (hn : 1 ≤ n ∧ n ≤ 4)
    (hd : dp + 20 < recursionLimit) (hu : un + 300 < cLine)
    (hret : ∀ (l : Addr) (vs : List PySem.Value) (e : Nat) (o' : PySem.Obj) (tl : List (Addr × PySem.Obj)) h' tk', Fr h₀ L h' m → News h₀ L h' ((119, o') :: (l, listOf vs.toArray e) :: (tl ++ news)) → (∀ p ∈ news, p.1 < l) → (119 : Nat) < l → TabSt (Str.ofString "_int2digits.<locals>.inner") 71 4 o' (tl ++ news) → (∀ p ∈ tl, (∀ q ∈ news, q.1 < p.1) ∧ l < p.1) →
      IntsAre vs (putD n (((Builtin.Int.intBits (x : Int) : Int) + (n : Int) - 1).fdiv (n : Int)).toNat (List.replicate (((Builtin.Int.intBits (x : Int) : Int) + (n : Int) - 1).fdiv (n : Int)).toNat 0) 0 x) → Q (.ref l) { s with heap := h', toks := tk' }) :
    wpAny (model PG w) (ktrTop dp un gd cn cs L a ccd cl outer) (call (.ref 124) [.int (x : Int) tx, .int (n : Int) tn]) Q E s := by
  refine wpAny_call ?_
  k_dflt (refine' code_defC ?k1 ?k2 ?k3 ?k4 ?k5 ?kA ?kF ?kK ?k6 ?k7 ?k8 ?k9 ?kB ?kD ?_ ?c2 ?c3 ?c4; (case kA => exact rfl); (case kF => exact rfl); (case kK => assumption); (case k1 => k_asm); (case k2 => k_asm); (case k3 => k_asm); (case k4 => k_asm); (case k5 => k_asm); (case k6 => k_is); (case k7 => k_is); (case k8 => ktr_room); (case k9 => exact BindsTo.of_eq rfl); (case kB => exact rfl); (case kD => decide +kernel); (case c2 => exact rfl); (case c3 => exact rfl); (case c4 => exact rfl); k_whole; intro g' L' h' tk' cells' FG' F' N' Y' B' X' T' l1; (try k_lt l1); k_cells Y'; (try simp only [List.cons_append, List.nil_append] at N'); (try dsimp only); (try k_lift B'); (try k_fold))
  have hD := dig_len hx hn
  have df := dig_facts hx hn
  have C1' : CodeHd g' 123 119 := C1.keeps FG'.keep
  have la : ∀ p ∈ news, p.1 < L' + 1 := fun p hp => Nat.lt_of_lt_of_le (allLt_out l1.2 p hp) (by lia)
  have lu : Under news (L' + 1) := la
  have lb : ∀ p ∈ news, p.1 < L' + 1 + 1 := fun p hp => Nat.lt_of_lt_of_le (allLt_out l1.2 p hp) (by lia)
  have lc : ∀ p ∈ news, p.1 < L' + 1 + 1 + 1 := fun p hp => Nat.lt_of_lt_of_le (allLt_out l1.2 p hp) (by lia)
  repeat (first | walk1 | (dsimp only; walk1))
  case step =>
    intro nw hsub hkey k IH
    simp only [List.forall_mem_cons] at hsub
    obtain ⟨m1, m2, -, m3, m4, m5, m6, m7⟩ := hsub
    replace m1 := m1 (by k_ne)
    replace m2 := m2 (by k_ne)
    replace m3 := m3 (by k_ne)
    replace m4 := m4 (by k_ne)
    replace m5 := m5 (by k_ne)
    replace m6 := m6 (by k_ne)
    unfold InnerC
    clear hret B F N X T C1 hk hd hu B' X' T'
    clear hn0 S lu
    intro dp un gd cn cs a ccd cl outer A₀ base h₀ L m s Q E vs e ds x lo hi cnt xi li ri tx tl th ex el er B F X N T C hk hI h1 h2 h3 h4 h5 h6 hd hu hret
    subst ex el er
    by_cases hc : cnt = 1
    · have hc1 : (lo : Int) + 1 = (hi : Int) := by lia
      subst hc
      refine wpAny_call ?_
      k_dflt (refine' code_nest ?k1 ?k2 ?k3 ?k4 ?k5 ?kA ?kF ?kK ?k6 ?k7 ?k8 ?k9 ?kB ?_ ?c2 ?c3 ?c4 ?c5; (case kA => exact rfl); (case kF => exact rfl); (case kK => assumption); (case k1 => k_asm); (case k2 => k_asm); (case k3 => k_asm); (case k4 => k_asm); (case k5 => k_asm); (case k6 => k_mem); (case k7 => exact codeRec_news (by k_asm) (by k_mem) (by assumption) (by assumption)); (case k8 => ktr_room); (case k9 => exact BindsTo.of_eq rfl); (case c5 => decide); (case kB => exact locs rfl); (case c2 => exact rfl); (case c3 => exact rfl); (case c4 => exact rfl); k_whole; intro g' L' h' FG' F' N' B' X' T'; (try dsimp only); (try k_lift B'); (try k_fold))
      have Ci := C.keeps FG'.keep
      repeat (first | walk1 | (dsimp only; walk1))
      have e : putD n 1 ds lo x = ds.set ((lo : Int)).toNat (x : Int) := by
        rw [Nat.one_mul] at h6
        rw [putD, putD, Nat.mod_eq_of_lt h6]; rfl
      have hi2 : IntsAre (vs.set ((lo : Int)).toNat (.int (x : Int) tx)) (putD n 1 ds lo x) := by rw [e]; assumption
      exact ret_ref (Q := Q) (fun h' tk' a b => hret _ _ h' tk' a b hi2) (by assumption) (by assumption)
    · have hc1 : ¬ (lo : Int) + 1 = (hi : Int) := by lia
      obtain ⟨c, hf1, hf2, hf3, hf4, hf5, hf6, hf7, hf8, hf9, hf10, hf11⟩ := split_facts (lo := lo) hn h1 h2 hc (by lia) h6
      have hf12 := hf1.2.2.2.2.1
      refine wpAny_call ?_
      k_dflt (refine' code_nest ?k1 ?k2 ?k3 ?k4 ?k5 ?kA ?kF ?kK ?k6 ?k7 ?k8 ?k9 ?kB ?_ ?c2 ?c3 ?c4 ?c5; (case kA => exact rfl); (case kF => exact rfl); (case kK => assumption); (case k1 => k_asm); (case k2 => k_asm); (case k3 => k_asm); (case k4 => k_asm); (case k5 => k_asm); (case k6 => k_mem); (case k7 => exact codeRec_news (by k_asm) (by k_mem) (by assumption) (by assumption)); (case k8 => ktr_room); (case k9 => exact BindsTo.of_eq rfl); (case c5 => decide); (case kB => exact locs rfl); (case c2 => exact rfl); (case c3 => exact rfl); (case c4 => exact rfl); k_whole; intro g' L' h' FG' F' N' B' X' T'; (try dsimp only); (try k_lift B'); (try k_fold))
      have Ci := C.keeps FG'.keep
      repeat (first | walk1 | (dsimp only; walk1))
      exact ret_ref (Q := Q) (fun h' tk' a b => hret _ _ h' tk' a b (by rw [← hf11 ds]; assumption)) (by assumption) (by assumption)
  case h2 => rw [flat_len]; exact df.2.2 (by assumption)
  case h3 => rw [flat_len]; exact df.1
  case h4 => rw [flat_len]; exact Nat.le_refl _
  case h5 => rw [flat_len]; exact df.1
  case h6 => rw [flat_len]; exact df.2.1
  case hd => ktr_room
  case hu => ktr_room
  · intro vs' e' h' tk' F' N' hi'
    repeat (first | walk1 | (dsimp only; walk1))
    rw [flat_len, flat_eq] at hi'
    refine' i2d_ret_any (Q := Q) hret (by assumption) (by assumption) (by k_mem) (by k_mem) (by k_mem) ?_ ?_ ?_ (by assumption) (by assumption) (by assumption) ?_
    · intro p hp; repeat (first | exact hp | apply List.mem_cons_of_mem)
    · exact fun p hp => allLt_out (And.right (And.right (And.right (And.right (And.right (by assumption)))))) p hp
    · exact ltN (by lia)
    · rename _ ∨ _ ∧ _ => h9
      exact h9.imp (fun h => ltN (And.left h)) And.right
  · repeat (first | walk1 | (dsimp only; walk1))
    have hx0 : x = 0 := by lia
    rw [← dig_nil hx0 hn] at hret
    refine' i2d_ret_any (Q := Q) hret (by assumption) (by assumption) (by k_mem) (by k_mem) (by k_mem) ?_ ?_ ?_ (by assumption) (by assumption) (by assumption) ?_
    · intro p hp; repeat (first | exact hp | apply List.mem_cons_of_mem)
    · exact fun p hp => allLt_out (And.right (And.right (And.right (And.right (And.right (by assumption)))))) p hp
    · exact ltN (by lia)
    · rename _ ∨ _ ∧ _ => h9
      exact h9.imp (fun h => ltN (And.left h)) And.right
end
end
theorem kw_C6a : True := (by k_with_none; w_top off; exact trivial)
section
open PySem PySem.W PyProof.Rows
open Lean Elab Tactic Meta
/-- the number that cnt digits from lo write -/
noncomputable def valD (n : Nat) (ds : List Int) : Nat → Nat → Int
  | 0, _ => 0
  | k + 1, lo => ds.getD lo 0 + 2 ^ n * valD n ds k (lo + 1)
theorem valD_add (n : Nat) (ds : List Int) : ∀ (k1 k2 lo : Nat), valD n ds (k1 + k2) lo = valD n ds k1 lo + 2 ^ (k1 * n) * valD n ds k2 (lo + k1)
  | 0, k2, lo => by simp [valD]
  | k1 + 1, k2, lo => by
    rw [show k1 + 1 + k2 = (k1 + k2) + 1 from by lia, valD, valD_add n ds k1 k2 (lo + 1), valD, show lo + 1 + k1 = lo + (k1 + 1) from by lia, Int.mul_add, ← Int.mul_assoc, ← Int.pow_add, Int.add_assoc, show n + k1 * n = (k1 + 1) * n from by rw [Nat.add_mul, Nat.one_mul, Nat.add_comm]]
theorem valD_rng {n : Nat} {ds : List Int} (h : ∀ d ∈ ds, 0 ≤ d ∧ d < 2 ^ n) : ∀ k lo : Nat, 0 ≤ valD n ds k lo ∧ valD n ds k lo < 2 ^ (k * n)
  | 0, _ => by simp [valD]
  | k + 1, lo => by
    have ih := valD_rng h k (lo + 1)
    have hd : 0 ≤ ds.getD lo 0 ∧ ds.getD lo 0 < 2 ^ n := by
      by_cases hl : lo < ds.length
      · rw [List.getD_eq_getElem?_getD, List.getElem?_eq_getElem hl]; exact h _ (List.getElem_mem _)
      · rw [List.getD_eq_getElem?_getD, List.getElem?_eq_none (by lia)]
        exact ⟨Int.le_refl _, Int.pow_pos (by decide)⟩
    have hp : (0 : Int) < 2 ^ n := Int.pow_pos (by decide)
    rw [valD]
    have e : (2 : Int) ^ ((k + 1) * n) = 2 ^ n * 2 ^ (k * n) := by rw [← Int.pow_add, Nat.add_mul, Nat.one_mul, Nat.add_comm]
    have h1 : 0 ≤ 2 ^ n * valD n ds k (lo + 1) := Int.mul_nonneg (Int.le_of_lt hp) ih.1
    have h2 : 2 ^ n * (valD n ds k (lo + 1) + 1) ≤ 2 ^ n * 2 ^ (k * n) := Int.mul_le_mul_of_nonneg_left (by lia) (Int.le_of_lt hp)
    rw [Int.mul_add, Int.mul_one] at h2
    rw [e]
    lia
/-- inner of _digits2int -/
noncomputable def InnerD (w : World) (mean : ExcName → Option PySem.Value) (mg mb : PySem.Str → Option PySem.Value) (f : Addr) (news : List (Addr × PySem.Obj)) (ds : List Int) (n k : Nat) : Prop :=
  ∀ (dp un : Nat) (gd : Option (List Code)) (cn : PySem.Str) (cs : Scope) (a : Addr) (ccd : PySem.Value) (cl : List (PySem.Str × Addr)) (outer : List Env) (A₀ : Around) (base h₀ : Heap) (L : Addr) (m : PySem.Str → Option PySem.Value) (s : Shared) (Q E : PySem.Value → Shared → Prop)
    (lo hi cnt : Nat) (li ri : Int) (tl th : Tok), li = (lo : Int) → ri = (hi : Int) →
    Below A₀ base outer h₀ → Fr h₀ L s.heap m → (hd0.heap_1 w.params).In h₀ → News h₀ L s.heap news → Top topProg LS mean mg mb h₀ → CodeHd h₀ 130 126 → cs.kind = .function →
    hi = lo + cnt → 1 ≤ cnt → cnt ≤ k → hi ≤ ds.length → dp + k + 1 < recursionLimit → un + 16 * k + 16 < cLine →
    (∀ t h' tk', Fr h₀ L h' m → News h₀ L h' news → Q (.int (valD n ds cnt lo) t) { s with heap := h', toks := tk' }) →
    wpAny (model PG w) (ktrTop dp un gd cn cs L a ccd cl outer) (call (.ref f) [.int li tl, .int ri th]) Q E s
theorem innerD_ind {w : World} {mean : ExcName → Option PySem.Value} {mg mb : PySem.Str → Option PySem.Value} {f : Addr} {news : List (Addr × PySem.Obj)} {ds : List Int} {n : Nat} (step : ∀ k, InnerD w mean mg mb f news ds n k → InnerD w mean mg mb f news ds n (k + 1)) : ∀ k, InnerD w mean mg mb f news ds n k
  | 0 => by
    unfold InnerD
    intros
    omega
  | k + 1 => step k (innerD_ind step k)
theorem innerD_use7 {w : World} {mean : ExcName → Option PySem.Value} {mg mb : PySem.Str → Option PySem.Value} {dp un : Nat} {gd : Option (List Code)} {cn : PySem.Str} {cs : Scope} {a : Addr} {ccd : PySem.Value} {cl : List (PySem.Str × Addr)} {outer : List Env} {A₀ : Around} {base h₀ : Heap} {L : Addr} {m : PySem.Str → Option PySem.Value} {s : Shared} {Q E : PySem.Value → Shared → Prop}
    {f : Addr} {news : List (Addr × PySem.Obj)} {ds : List Int} {n : Nat} {ri : Int} {tl th : Tok} (er : ri = (ds.length : Int)) (hn : 1 ≤ n ∧ n ≤ 4)
    (B : Below A₀ base outer h₀) (F : Fr h₀ L s.heap m) (X : (hd0.heap_1 w.params).In h₀) (N : News h₀ L s.heap news) (T : Top topProg LS mean mg mb h₀) (C : CodeHd h₀ 130 126) (hk : cs.kind = .function)
    (h2 : 1 ≤ ds.length) (h3 : ds.length ≤ 7) (hd : dp + 7 + 1 < recursionLimit) (hu : un + 16 * 7 + 16 < cLine)
    (step : ∀ nw, (∀ p ∈ news, p ∈ nw) → ∀ k, InnerD w mean mg mb f nw ds n k → InnerD w mean mg mb f nw ds n (k + 1))
    (hret : ∀ t h' tk', Fr h₀ L h' m → News h₀ L h' news → Q (.int (valD n ds ds.length 0) t) { s with heap := h', toks := tk' }) :
    wpAny (model PG w) (ktrTop dp un gd cn cs L a ccd cl outer) (call (.ref f) [.int 0 tl, .int ri th]) Q E s :=
  innerD_ind (step news fun _ h => h) 7 dp un gd cn cs a ccd cl outer A₀ base h₀ L m s Q E 0 ds.length ds.length 0 ri tl th rfl er B F X N T C hk (Nat.zero_add _).symm h2 h3 (Nat.le_refl _) hd hu hret
theorem innerD_ih {w : World} {mean : ExcName → Option PySem.Value} {mg mb : PySem.Str → Option PySem.Value} {dp un : Nat} {gd : Option (List Code)} {cn : PySem.Str} {cs : Scope} {a : Addr} {ccd : PySem.Value} {cl : List (PySem.Str × Addr)} {outer : List Env} {A₀ : Around} {base h₀ : Heap} {L : Addr} {m : PySem.Str → Option PySem.Value} {s : Shared} {Q E : PySem.Value → Shared → Prop}
    {f : Addr} {news : List (Addr × PySem.Obj)} {ds : List Int} {n k lo hi cnt : Nat} {li ri : Int} {tl th : Tok} (IH : InnerD w mean mg mb f news ds n k) (el : li = (lo : Int)) (er : ri = (hi : Int))
    (B : Below A₀ base outer h₀) (F : Fr h₀ L s.heap m) (X : (hd0.heap_1 w.params).In h₀) (N : News h₀ L s.heap news) (T : Top topProg LS mean mg mb h₀) (C : CodeHd h₀ 130 126) (hk : cs.kind = .function)
    (h1 : hi = lo + cnt) (h2 : 1 ≤ cnt) (h3 : cnt ≤ k) (h4 : hi ≤ ds.length) (hd : dp + k + 1 < recursionLimit) (hu : un + 16 * k + 16 < cLine)
    (hret : ∀ t h' tk', Fr h₀ L h' m → News h₀ L h' news → Q (.int (valD n ds cnt lo) t) { s with heap := h', toks := tk' }) :
    wpAny (model PG w) (ktrTop dp un gd cn cs L a ccd cl outer) (call (.ref f) [.int li tl, .int ri th]) Q E s :=
  IH dp un gd cn cs a ccd cl outer A₀ base h₀ L m s Q E lo hi cnt li ri tl th el er B F X N T C hk h1 h2 h3 h4 hd hu hret
theorem splitD {lo hi cnt n : Nat} {ds : List Int} (hn : 1 ≤ n ∧ n ≤ 4) (hds : ∀ d ∈ ds, 0 ≤ d ∧ d < 2 ^ n) (h1 : hi = lo + cnt) (h2 : 1 ≤ cnt) (hc : cnt ≠ 1) (h7 : cnt ≤ 7) :
    ∃ c : Nat, (1 ≤ c ∧ c < cnt ∧ 1 ≤ cnt - c ∧ cnt - c < cnt ∧ hi = lo + c + (cnt - c) ∧ lo + c ≤ hi) ∧ ((lo : Int) + (hi : Int)).fdiv (2 ^ (1 : Int).toNat) = ((lo + c : Nat) : Int) ∧ (((lo + c : Nat) : Int) - (lo : Int)) * (n : Int) = ((c * n : Nat) : Int) ∧ (0 ≤ ((c * n : Nat) : Int) ∧ ((c * n : Nat) : Int) ≤ 1000) ∧
      (0 ≤ valD n ds (cnt - c) (lo + c) ∧ valD n ds (cnt - c) (lo + c) < 2 ^ 60) ∧
      valD n ds (cnt - c) (lo + c) * 2 ^ ((c * n : Nat) : Int).toNat + valD n ds c lo = valD n ds cnt lo := by
  refine ⟨cnt / 2, ⟨by lia, by lia, by lia, by lia, by lia, by lia⟩, mid_eq lo hi cnt h1, shift_eq lo (cnt / 2) n, ⟨Int.natCast_nonneg _, ?_⟩, ?_, ?_⟩
  · have : cnt / 2 * n ≤ 3 * 4 := Nat.mul_le_mul (by lia) hn.2
    lia
  · have r := valD_rng hds (cnt - cnt / 2) (lo + cnt / 2)
    have a2 : (cnt - cnt / 2) * n ≤ 7 * 4 := Nat.mul_le_mul (by lia) hn.2
    have a3 : (2 : Nat) ^ ((cnt - cnt / 2) * n) ≤ 2 ^ 28 := Nat.pow_le_pow_right (by decide) a2
    have a4 : (2 : Int) ^ ((cnt - cnt / 2) * n) ≤ 2 ^ 28 := by exact_mod_cast a3
    have a5 : (2 : Int) ^ 28 < 2 ^ 60 := by decide
    exact ⟨r.1, Int.lt_trans (Int.lt_of_lt_of_le r.2 a4) a5⟩
  · rw [Int.toNat_natCast, Int.mul_comm, Int.add_comm, ← valD_add, show cnt / 2 + (cnt - cnt / 2) = cnt from by lia]
end
theorem kw_C6b : True := (by k_with_none; w_top off; exact trivial)
section
open PySem PySem.W PyProof.Rows
open Lean Elab Tactic Meta
theorem fill6b : PySem.Challenge.rw_sr0071_01 = PySem.Challenge.rw_sr0071_01 ∧ hd0.heap_1 = hd0.heap_1 := by k_fill; exact ⟨rfl, rfl⟩
section
variable {w : World} {mean : ExcName → Option PySem.Value} {mg mb : PySem.Str → Option PySem.Value} {dp un : Nat} {gd : Option (List Code)} {cn : PySem.Str} {cs : Scope} {a : Addr} {ccd : PySem.Value} {cl : List (PySem.Str × Addr)} {outer : List Env} {A₀ : Around} {base h₀ : Heap} {L : Addr} {m : PySem.Str → Option PySem.Value} {news : List (Addr × PySem.Obj)} {s : Shared}
    {Q E : PySem.Value → Shared → Prop}
local macro_rules | `(tactic| walk_at "call ref") => `(tactic| (k_here; kn_here; (show wpAny _ _ (call (Value.ref _) [Value.int _ _, Value.int _ _]) _ _ _); k_dflt ((refine' innerD_use7 ?er ?hn ?B ?F ?X ?N ?T ?C ?hk ?h2 ?h3 ?hd ?hu ?step ?_); (case hn => assumption); (case B => k_asm); (case F => k_asm); (case X => k_asm); (case N => k_asm); (case T => k_asm); (case C => kn_code); (case hk => first | rfl | assumption); (case er => first | rfl | assumption))))
local macro_rules | `(tactic| walk_at "call ref") => `(tactic| (k_here; kn_here; (show wpAny _ _ (call (Value.ref _) [Value.int _ _, Value.int _ _]) _ _ _); (have IHx := (by with_reducible assumption : InnerD _ _ _ _ _ _ _ _ _)); k_dflt ((refine' innerD_ih IHx (by rfl) (by rfl) (by k_asm) (by k_asm) (by k_asm) (by k_asm) (by k_asm) (by kn_code) (by first | rfl | assumption) (by first | rfl | assumption) (by lia) (by lia) (by lia) (by ktr_room) (by ktr_room) ?_); intro t' h' tk' F' N'; (try dsimp only))))
local macro_rules | `(tactic| walk_at "binaryOp RShift int int") => `(tactic| (k_here; k_dflt (refine rsh_eq (by lia) (by assumption) ?_)))
local macro_rules | `(tactic| walk_at "binaryOp LShift int int") => `(tactic| (k_here; k_dflt (refine lsh_eq (by lia) (by lia) (by assumption) rfl ?_)))
local macro_rules | `(tactic| walk_at "binaryOp Mult int int") => `(tactic| (k_here; k_dflt (refine mul_eq (by lia) (by assumption) ?_)))
local macro_rules | `(tactic| walk_at "ite") => `(tactic| (k_here; k_openite; first | (refine ite_pos (by (simp only [decide_eq_true_eq, beq_iff_eq]; lia)) ?_) | (refine ite_neg (by (simp only [decide_eq_true_eq, beq_iff_eq]; lia)) ?_)))
theorem d2i_ret_miss {c : Addr} {oc : PySem.Obj} {cvs : Array PySem.Value} {ct : Tok} {all : List (Addr × PySem.Obj)} {h' : Heap} {tk' : Nat} {T₁ : Addr} {q : PySem.Str} {pa pb v : Int} {t : Tok}
    (hret : ∀ (t : Tok) (o' : PySem.Obj) (tl : List (Addr × PySem.Obj)) h' tk', Fr h₀ L h' m → News h₀ L h' ((T₁, o') :: (tl ++ news)) → TabSt q pa pb o' (tl ++ news) → (∀ p ∈ tl, ∀ q ∈ news, q.1 < p.1) → Q (.int v t) { s with heap := h', toks := tk' })
    (F : Fr h₀ L h' m) (N : News h₀ L h' all) (M1 : (T₁, tabObj (#[] ++ #[rawInt pa, rawInt pb, .ref c])) ∈ all) (M3 : (c, oc) ∈ all) (M4 : ∀ p ∈ news, p ∈ all)
    (oc' : ∀ p ∈ news, p.1 < c) (d1 : oc.data = .fields cvs) (d2 : cvs[1]? = some (.str q ct)) : Q (.int v t) { s with heap := h', toks := tk' } := by
  refine hret t _ [(c, oc)] h' tk' F (fun p hp => ?_) (.inr ⟨c, oc, cvs, ct, rfl, .head _, d1, d2⟩) (fun p hp => ?_)
  · rcases List.mem_cons.mp hp with rfl | hp
    · exact N _ M1
    · rcases List.mem_cons.mp hp with rfl | hp
      · exact N _ M3
      · exact N _ (M4 p hp)
  · rcases List.mem_cons.mp hp with rfl | hp
    · exact oc'
    · cases hp
theorem d2i_ret_hit {c : Addr} {oc : PySem.Obj} {cvs : Array PySem.Value} {ct : Tok} {all : List (Addr × PySem.Obj)} {h' : Heap} {tk' : Nat} {T₁ : Addr} {q : PySem.Str} {pa pb v : Int} {t : Tok}
    (hret : ∀ (t : Tok) (o' : PySem.Obj) (tl : List (Addr × PySem.Obj)) h' tk', Fr h₀ L h' m → News h₀ L h' ((T₁, o') :: (tl ++ news)) → TabSt q pa pb o' (tl ++ news) → (∀ p ∈ tl, ∀ q ∈ news, q.1 < p.1) → Q (.int v t) { s with heap := h', toks := tk' })
    (F : Fr h₀ L h' m) (N : News h₀ L h' all) (M1 : (T₁, tabObj (#[] ++ #[rawInt pa, rawInt pb, .ref c])) ∈ all) (M3 : (c, oc) ∈ news) (M4 : ∀ p ∈ news, p ∈ all)
    (d1 : oc.data = .fields cvs) (d2 : cvs[1]? = some (.str q ct)) : Q (.int v t) { s with heap := h', toks := tk' } := by
  refine hret t _ [] h' tk' F (fun p hp => ?_) (.inr ⟨c, oc, cvs, ct, rfl, M3, d1, d2⟩) (fun p hp => nomatch hp)
  rcases List.mem_cons.mp hp with rfl | hp
  · exact N _ M1
  · exact N _ (M4 p hp)
theorem d2i_ret_any {c : Addr} {oc : PySem.Obj} {cvs : Array PySem.Value} {ct : Tok} {all : List (Addr × PySem.Obj)} {h' : Heap} {tk' : Nat} {T₁ : Addr} {q : PySem.Str} {pa pb v : Int} {t : Tok}
    (hret : ∀ (t : Tok) (o' : PySem.Obj) (tl : List (Addr × PySem.Obj)) h' tk', Fr h₀ L h' m → News h₀ L h' ((T₁, o') :: (tl ++ news)) → TabSt q pa pb o' (tl ++ news) → (∀ p ∈ tl, ∀ q ∈ news, q.1 < p.1) → Q (.int v t) { s with heap := h', toks := tk' })
    (F : Fr h₀ L h' m) (N : News h₀ L h' all) (M1 : (T₁, tabObj (#[] ++ #[rawInt pa, rawInt pb, .ref c])) ∈ all) (M3 : (c, oc) ∈ all) (M4 : ∀ p ∈ news, p ∈ all)
    (d1 : oc.data = .fields cvs) (d2 : cvs[1]? = some (.str q ct)) (hd : (∀ p ∈ news, p.1 < c) ∨ (c, oc) ∈ news) : Q (.int v t) { s with heap := h', toks := tk' } := by
  rcases hd with hd | hd
  · exact d2i_ret_miss (Q := Q) hret F N M1 M3 M4 hd d1 d2
  · exact d2i_ret_hit (Q := Q) hret F N M1 hd M4 d1 d2
theorem d2i_any {n : Nat} {o : PySem.Obj} {tn : Tok} {dl : Addr} {vs : List PySem.Value} {e : Nat} {ds : List Int}
    (B : Below A₀ base outer h₀) (F : Fr h₀ L s.heap m) (X : (hd0.heap_1 w.params).In h₀) (N : News h₀ L s.heap ((126, o) :: news)) (T : Top topProg LS mean mg mb h₀) (hk : cs.kind = .function)
    (C1 : CodeHd h₀ 130 126) (hn0 : ∀ p ∈ news, p.1 ≠ 126) (S : TabSt (Str.ofString "_digits2int.<locals>.inner") 86 4 o news) (M : (dl, listOf vs.toArray e) ∈ news) (hi : IntsAre vs ds)
    (hn : 1 ≤ n ∧ n ≤ 4) (hl : ds.length ≤ 7) (hds : ∀ d ∈ ds, 0 ≤ d ∧ d < 2 ^ n)
    (hd : dp + 20 < recursionLimit) (hu : un + 300 < cLine)
    (hret : ∀ (t : Tok) (o' : PySem.Obj) (tl : List (Addr × PySem.Obj)) h' tk', Fr h₀ L h' m → News h₀ L h' ((126, o') :: (tl ++ news)) → TabSt (Str.ofString "_digits2int.<locals>.inner") 86 4 o' (tl ++ news) → (∀ p ∈ tl, ∀ q ∈ news, q.1 < p.1) → Q (.int (valD n ds ds.length 0) t) { s with heap := h', toks := tk' }) :
    wpAny (model PG w) (ktrTop dp un gd cn cs L a ccd cl outer) (call (.ref 131) [.ref dl, .int (n : Int) tn]) Q E s := by
  refine wpAny_call ?_
  k_dflt (refine' code_defC ?k1 ?k2 ?k3 ?k4 ?k5 ?kA ?kF ?kK ?k6 ?k7 ?k8 ?k9 ?kB ?kD ?_ ?c2 ?c3 ?c4; (case kA => exact rfl); (case kF => exact rfl); (case kK => assumption); (case k1 => k_asm); (case k2 => k_asm); (case k3 => k_asm); (case k4 => k_asm); (case k5 => k_asm); (case k6 => k_is); (case k7 => k_is); (case k8 => ktr_room); (case k9 => exact BindsTo.of_eq rfl); (case kB => exact rfl); (case kD => decide +kernel); (case c2 => exact rfl); (case c3 => exact rfl); (case c4 => exact rfl); k_whole; intro g' L' h' tk' cells' FG' F' N' Y' B' X' T' l1; (try k_lt l1); k_cells Y'; (try simp only [List.cons_append, List.nil_append] at N'); (try dsimp only); (try k_lift B'); (try k_fold))
  have C1' : CodeHd g' 130 126 := C1.keeps FG'.keep
  have la : ∀ p ∈ news, p.1 < L' + 1 := fun p hp => Nat.lt_of_lt_of_le (allLt_out l1.2 p hp) (by lia)
  have lu : Under news (L' + 1) := la
  have lb : ∀ p ∈ news, p.1 < L' + 1 + 1 := fun p hp => Nat.lt_of_lt_of_le (allLt_out l1.2 p hp) (by lia)
  have lc : ∀ p ∈ news, p.1 < L' + 1 + 1 + 1 := fun p hp => Nat.lt_of_lt_of_le (allLt_out l1.2 p hp) (by lia)
  repeat (first | walk1 | (dsimp only; walk1))
  case step =>
    rename_i nw hsub k IH
    simp only [List.forall_mem_cons] at hsub
    obtain ⟨m1, m2, m3, m4, m5, m6, m7⟩ := hsub
    have Md := m7 _ M
    unfold InnerD
    clear hret B F N X T C1 hk hd hu B' X' T'
    clear hn0 S lu
    intro dp un gd cn cs a ccd cl outer A₀ base h₀ L m s Q E lo hi cnt li ri tl th el er B F X N T C hk h1 h2 h3 h4 hd hu hret
    subst el er
    by_cases hc : cnt = 1
    · have hc1 : (lo : Int) + 1 = (hi : Int) := by lia
      subst hc
      refine wpAny_call ?_
      k_dflt (refine' code_nest ?k1 ?k2 ?k3 ?k4 ?k5 ?kA ?kF ?kK ?k6 ?k7 ?k8 ?k9 ?kB ?_ ?c2 ?c3 ?c4 ?c5; (case kA => exact rfl); (case kF => exact rfl); (case kK => assumption); (case k1 => k_asm); (case k2 => k_asm); (case k3 => k_asm); (case k4 => k_asm); (case k5 => k_asm); (case k6 => k_mem); (case k7 => exact codeRec_news (by k_asm) (by k_mem) (by assumption) (by assumption)); (case k8 => ktr_room); (case k9 => exact BindsTo.of_eq rfl); (case c5 => decide); (case kB => exact locs rfl); (case c2 => exact rfl); (case c3 => exact rfl); (case c4 => exact rfl); k_whole; intro g' L' h' FG' F' N' B' X' T'; (try dsimp only); (try k_lift B'); (try k_fold))
      have Ci := C.keeps FG'.keep
      repeat (first | walk1 | (dsimp only; walk1))
      have e1 : valD n ds 1 lo = ds.getD ((lo : Int)).toNat 0 := by simp [valD]
      rw [← e1]
      exact ret_ref (Q := Q) (fun h' tk' a b => hret _ h' tk' a b) (by assumption) (by assumption)
    · have hc1 : ¬ (lo : Int) + 1 = (hi : Int) := by lia
      obtain ⟨c, hf1, hf2, hf3, hf4, hf5, hf6⟩ := splitD (lo := lo) hn hds h1 h2 hc (by lia)
      have hf12 := hf1.2.2.2.2.1
      refine wpAny_call ?_
      k_dflt (refine' code_nest ?k1 ?k2 ?k3 ?k4 ?k5 ?kA ?kF ?kK ?k6 ?k7 ?k8 ?k9 ?kB ?_ ?c2 ?c3 ?c4 ?c5; (case kA => exact rfl); (case kF => exact rfl); (case kK => assumption); (case k1 => k_asm); (case k2 => k_asm); (case k3 => k_asm); (case k4 => k_asm); (case k5 => k_asm); (case k6 => k_mem); (case k7 => exact codeRec_news (by k_asm) (by k_mem) (by assumption) (by assumption)); (case k8 => ktr_room); (case k9 => exact BindsTo.of_eq rfl); (case c5 => decide); (case kB => exact locs rfl); (case c2 => exact rfl); (case c3 => exact rfl); (case c4 => exact rfl); k_whole; intro g' L' h' FG' F' N' B' X' T'; (try dsimp only); (try k_lift B'); (try k_fold))
      have Ci := C.keeps FG'.keep
      repeat (first | walk1 | (dsimp only; walk1))
      rw [hf6]
      exact ret_ref (Q := Q) (fun h' tk' a b => hret _ h' tk' a b) (by assumption) (by assumption)
  · intro t' h' tk' F' N'
    (try dsimp only)
    repeat (first | walk1 | (dsimp only; walk1))
    refine' d2i_ret_any (Q := Q) hret (by assumption) (by assumption) (by k_mem) (by k_mem) ?_ (by assumption) (by assumption) ?_
    · intro p hp; repeat (first | exact hp | apply List.mem_cons_of_mem)
    · rename _ ∨ _ ∧ _ => h9
      exact h9.imp (fun h => allLt_out h.2.2.2.2) And.right
  · repeat (first | walk1 | (dsimp only; walk1))
    have hx0 : ds.length = 0 := by lia
    rw [hx0] at hret
    refine' d2i_ret_any (Q := Q) hret (by assumption) (by assumption) (by k_mem) (by k_mem) ?_ (by assumption) (by assumption) ?_
    · intro p hp; repeat (first | exact hp | apply List.mem_cons_of_mem)
    · rename _ ∨ _ ∧ _ => h9
      exact h9.imp (fun h => allLt_out h.2.2.2.2) And.right
end
end
theorem kw_C7 : True := (by k_with_none; w_top off; exact trivial)
section
open PySem PySem.W PyProof.Rows
open Lean Elab Tactic Meta
theorem fill7 : PySem.Challenge.rw_sr0071_01 = PySem.Challenge.rw_sr0071_01 ∧ hd0.heap_1 = hd0.heap_1 := by k_fill; exact ⟨rfl, rfl⟩
section
variable {w : World} {mean : ExcName → Option PySem.Value} {mg mb : PySem.Str → Option PySem.Value} {dp un : Nat} {gd : Option (List Code)} {cn : PySem.Str} {cs : Scope} {a : Addr} {ccd : PySem.Value} {cl : List (PySem.Str × Addr)} {outer : List Env} {A₀ : Around} {base h₀ : Heap} {L : Addr} {m : PySem.Str → Option PySem.Value} {news : List (Addr × PySem.Obj)} {s : Shared}
    {Q E : PySem.Value → Shared → Prop}
theorem news_lt {h : Heap} (N : News h₀ L h news) : ∀ p ∈ news, p.1 < h.objs.size := fun p hp => Heap.lt_size (N p hp).1
local macro_rules | `(tactic| walk_at "call builtin:divmod") => `(tactic| (k_here; (with_reducible show wpAny _ _ (call (Value.builtin _) [Value.int _ _, Value.int _ _]) _ _ _); (have lD := news_lt (by with_reducible assumption : News _ _ _ _)); refine divmod_N (by assumption) (by assumption) (by omega) ?_; intro _ _ _))
theorem div2_ret {D : Addr} {x b : Int} {t1 t2 : Tok} {e : Nat} {h' : Heap} {tk' : Nat}
    (hret : ∀ (D : Addr) (t1 t2 : Tok) (e : Nat) h' tk', Fr h₀ L h' m → News h₀ L h' ((D, tupO [.int (x.fdiv b) t1, .int (x.fmod b) t2] e) :: news) → (∀ p ∈ news, p.1 < D) → Q (.ref D) { s with heap := h', toks := tk' })
    (F : Fr h₀ L h' m) (N : News h₀ L h' ((D, tupO [.int (x.fdiv b) t1, .int (x.fmod b) t2] e) :: news)) (l : ∀ p ∈ news, p.1 < D) : Q (.ref D) { s with heap := h', toks := tk' } := hret D t1 t2 e h' tk' F N l
theorem div2_spec {x b n : Int} {tx tb tn : Tok}
    (B : Below A₀ base outer h₀) (F : Fr h₀ L s.heap m) (X : (hd0.heap_1 w.params).In h₀) (N : News h₀ L s.heap news) (T : Top topProg LS mean mg mb h₀) (hk : cs.kind = .function)
    (hx : 0 ≤ x ∧ x < 256) (hb : 1 ≤ b ∧ b ≤ 13) (hn : 1 ≤ n ∧ n ≤ 4)
    (hd : dp + 6 < recursionLimit) (hu : un + 80 < cLine)
    (hret : ∀ (D : Addr) (t1 t2 : Tok) (e : Nat) h' tk', Fr h₀ L h' m → News h₀ L h' ((D, tupO [.int (x.fdiv b) t1, .int (x.fmod b) t2] e) :: news) → (∀ p ∈ news, p.1 < D) → Q (.ref D) { s with heap := h', toks := tk' }) :
    wpAny (model PG w) (ktrTop dp un gd cn cs L a ccd cl outer) (call (.ref 110) [.int x tx, .int b tb, .int n tn]) Q E s := by
  have hbits : Builtin.Int.intBits x ≤ 8 := bits_le hx.1 (by simpa using hx.2)
  have hle : (Builtin.Int.intBits x : Int) - n ≤ 4000 := by omega
  refine wpAny_call ?_
  k_dflt cell_enter
  repeat (first | walk1 | (dsimp only; walk1))
  exact div2_ret (Q := Q) hret (by assumption) (by assumption) (by assumption)
end
end
theorem kw_L3 : True := (by k_with_none; w_top off; exact trivial)
section
open PySem PySem.W PyProof.Rows PySem.Calls PyProof.V PySem.Spec
section
variable {prog : PySem.Program} {w : World} {A : Around} {E : PySem.Value → Shared → Prop} {s : Shared} {env : Env} {h₀ : Heap} {target : PySem.Expr} {body : List Stmt} {Q : Flow → Shared → Prop}
theorem intsAre_get {vs : List PySem.Value} {ds : List Int} (h : IntsAre vs ds) {i : Nat} {v : PySem.Value} (hv : vs[i]? = some v) : ∃ k t, v = .int k t ∧ ds[i]? = some k := by
  induction h generalizing i with
  | nil => cases hv
  | cons _ _ _ ih =>
    cases i with
    | zero => cases hv; exact ⟨_, _, rfl, rfl⟩
    | succ i => exact ih hv
set_option maxHeartbeats 3200000 in
theorem kdc_rev {σ : Type} {x : PySem.Str} {D l : Addr} {vs : List PySem.Value} {ds : List Int} {e : Nat} {m₀ : PySem.Str → Option PySem.Value} {news : List (Addr × PySem.Obj)} (Led : σ → List (Addr × PySem.Obj)) (cst : List (Addr × PySem.Obj)) (ps : σ → List (PySem.Str × PySem.Value)) (Facts : List (Addr × PySem.Obj) → σ → Prop) (stored : List PySem.Str) (P : List Int → σ → Prop) (adr : List Addr) (c₀ : σ)
    (hx : stored.contains x = true) (hh : A.handled = none) (hi : IntsAre vs ds) (F : Fr h₀ env.locals s.heap m₀) (N : News h₀ env.locals s.heap ((D, PySem.revObj l ((vs.length : Int) - 1)) :: news)) (hD : ∀ p ∈ news, p.1 < D) (hm : (l, listOf vs.toArray e) ∈ cst) (hn : ∀ p ∈ Led c₀ ++ (cst ++ []), p ∈ news) (hadr : ∀ c, (Led c ++ cst).map (·.1) = adr) (hf : Facts (cst ++ []) c₀) (hk : ∀ p ∈ ps c₀, m₀ p.1 = some p.2) (hp : P [] c₀)
    (ht : ∀ v, letOwnedTupleGo target (.ref D) v = pure ()) (hE : PassesOwn (model prog w) A env E)
    (turn : ∀ (c : σ) tl (pre rest : List Int) (k : Int) t (u : PySem.Str → Option PySem.Value) h tk own, ds.reverse = pre ++ k :: rest → KdSep own tl adr → OwnOff (tl ++ own) adr → Facts (cst ++ tl) c → P pre c →
      Fr h₀ env.locals h (kstB (fun z => if stored.contains z then u z else m₀ z) (ps c)) → News h₀ env.locals h (Led c ++ (cst ++ (tl ++ own))) →
      wpAny (model prog w) A (assign target env (.int k t)) (fun _ s₂ => wpAny (model prog w) A (execs body env) (InvPostG h₀ env.locals (KdS Led cst ps Facts x stored m₀ P adr (pre ++ [k])) own { s with heap := h, toks := tk } Q) E s₂) E { s with heap := h, toks := tk })
    (done : ∀ (c : σ) tl (u : PySem.Str → Option PySem.Value) h tk, OwnOff tl adr → Facts (cst ++ tl) c → P ds.reverse c → Fr h₀ env.locals h (kstB (fun z => if stored.contains z then u z else m₀ z) (ps c)) → News h₀ env.locals h (Led c ++ (cst ++ tl)) → Q .next { s with heap := h, toks := tk }) :
    wpAny (model prog w) A (pyIter (.ref D)) (fun it s₂ => LoopK prog w A E env target body Q it s₂) E s := by
  have hlen := hi.length
  have hDx := N _ (.head _)
  have hmn : (l, listOf vs.toArray e) ∈ news := hn _ (List.mem_append.mpr (.inr (List.mem_append.mpr (.inl hm))))
  have hlx := N _ (.tail _ hmn)
  have hne : l ≠ D := Nat.ne_of_lt (hD _ hmn)
  refine PySem.wpAny_pyIter_revIter (l := l) ⟨_, hDx.1, rfl, rfl⟩ ?_
  have W := PySem.Walks.listRev (prog := prog) (w := w) hh D l hne vs.toArray
  have hsz : vs.toArray.size = ds.length := by simpa using hlen
  rw [hsz] at W
  refine my_loop (fun i m nx => KdS Led cst ps Facts x stored m₀ P adr (ds.reverse.take i) m nx) W (.head _) ?_ ?_ ?_ hDx.2.2 (fun p hp => Nat.ne_of_lt (hD p (hn p hp))) ?_ F (fun p hp => N p (.tail _ (hn p hp))) ⟨c₀, [], rfl, fun _ hp => (nomatch hp), hf, hk, fun _ _ _ _ => rfl, by simpa using hp⟩ ht hE ?_ ?_
  · rintro i h ⟨_, ⟨o, ho, _⟩, _⟩; exact ⟨o, ho⟩
  · intro b hb
    rcases List.mem_cons.mp hb with rfl | hb
    · exact .inl rfl
    · rw [List.mem_singleton.mp hb]
      refine .inr (.inr ⟨listOf vs.toArray e, ?_⟩)
      rintro i m nx ⟨c, tl, rfl, _⟩
      exact List.mem_append.mpr (.inr (List.mem_append.mpr (.inl hm)))
  · intro hmm
    rcases List.mem_cons.mp hmm with h | h
    · exact hDx.2.1 h.symm
    · exact hlx.2.1 (List.mem_singleton.mp h).symm
  · refine ⟨Nat.zero_le _, ⟨_, hDx.1, rfl, ?_⟩, ⟨_, hlx.1, rfl, _, rfl⟩⟩
    have : (ds.length : Int) - 1 - ((0 : Nat) : Int) = (vs.length : Int) - 1 := by lia
    rw [this]; rfl
  · rintro i v m₁ nx h tk o hlt hP ⟨c, tl, rfl, ht', hf', h1, h2, hp'⟩ hoff F₁ N₁
    have hP' : vs[ds.length - 1 - i]? = some v := by simpa using hP
    obtain ⟨k, t, rfl, hk2⟩ := intsAre_get hi hP'
    have hr : ds.reverse[i]? = some k := by rw [List.getElem?_reverse hlt]; exact hk2
    have hs : ds.reverse.take (i + 1) = ds.reverse.take i ++ [k] := by simp only [List.take_add_one, hr]; rfl
    have hd2 : ds.reverse = ds.reverse.take i ++ k :: ds.reverse.drop (i + 1) := by
      have hlt' : i < ds.reverse.length := by rw [List.length_reverse]; exact hlt
      have e1 : ds.reverse[i] = k := Option.some.inj ((List.getElem?_eq_getElem hlt').symm.trans hr)
      have e2 := List.drop_eq_getElem_cons hlt'
      rw [e1] at e2
      rw [← e2, List.take_append_drop]
    rw [hs]
    obtain ⟨o1, o2⟩ := kd_split (hadr c) hoff
    rw [List.append_assoc, List.append_assoc] at N₁
    exact turn c tl _ _ k t m₁ h tk _ hd2 ⟨o1, o2, ht'⟩ (kd_off o1 ht') hf' hp' (kdc_fr hx h1 h2 F₁) N₁
  · rintro m₁ nx h tk ⟨c, tl, rfl, ht', hf', h1, h2, hp'⟩ F₁ N₁
    have hl : ds.reverse.take ds.length = ds.reverse := List.take_of_length_le (Nat.le_of_eq (List.length_reverse ..))
    rw [hl] at hp'
    exact done c tl m₁ h tk ht' hf' hp' (kdc_fr hx h1 h2 F₁) N₁
end
end
theorem kw_C8a : True := (by k_with_none; w_top off; exact trivial)
section
open PySem PySem.W PyProof.Rows
/-- digits read from the high end -/
noncomputable def bigV (n : Nat) (ds : List Int) : Int := ds.foldl (fun v d => v * 2 ^ n + d) 0
theorem bigV_snoc (n : Nat) (ds : List Int) (d : Int) : bigV n (ds ++ [d]) = bigV n ds * 2 ^ n + d := by
  unfold bigV; rw [List.foldl_append]; rfl
theorem valD_cons (n : Nat) (d : Int) (ds : List Int) : ∀ k lo : Nat, valD n (d :: ds) k (lo + 1) = valD n ds k lo
  | 0, _ => rfl
  | k + 1, lo => by rw [valD, valD, valD_cons n d ds k (lo + 1)]; rfl
theorem valD_big (n : Nat) : ∀ ds : List Int, valD n ds ds.length 0 = bigV n ds.reverse
  | [] => rfl
  | d :: ds => by
    rw [List.length_cons, valD, List.reverse_cons, bigV_snoc, valD_cons, valD_big n ds]
    show d + _ = _
    rw [Int.mul_comm, Int.add_comm]
theorem valD_putD (n : Nat) : ∀ (k : Nat) (ds : List Int) (lo x : Nat), lo + k ≤ ds.length → x < 2 ^ (k * n) → valD n (putD n k ds lo x) k lo = (x : Int) := by
  have keep : ∀ (k : Nat) (ds : List Int) (lo x i : Nat), i < lo → (putD n k ds lo x).getD i 0 = ds.getD i 0 := by
    intro k
    induction k with
    | zero => intros; rfl
    | succ k ih =>
      intro ds lo x i hi
      rw [putD, ih _ _ _ _ (by lia), List.getD_eq_getElem?_getD, List.getElem?_set_ne (by lia), ← List.getD_eq_getElem?_getD]
  intro k
  induction k with
  | zero =>
    intro ds lo x _ hx
    have : x = 0 := by simpa using hx
    subst this; rfl
  | succ k ih =>
    intro ds lo x hl hx
    have hx2 : x / 2 ^ n < 2 ^ (k * n) := by
      refine Nat.div_lt_of_lt_mul ?_
      rw [← Nat.pow_add, show n + k * n = (k + 1) * n from by rw [Nat.add_mul, Nat.one_mul, Nat.add_comm]]
      exact hx
    rw [putD, valD, ih _ _ _ (by rw [List.length_set]; lia) hx2, keep _ _ _ _ _ (by lia), List.getD_eq_getElem?_getD, List.getElem?_set_self (by lia)]
    show ((x % 2 ^ n : Nat) : Int) + 2 ^ n * ((x / 2 ^ n : Nat) : Int) = _
    have := Nat.mod_add_div x (2 ^ n)
    exact_mod_cast this
theorem putD_rng (n : Nat) : ∀ (k : Nat) (ds : List Int) (lo x : Nat), (∀ d ∈ ds, 0 ≤ d ∧ d < 2 ^ n) → ∀ d ∈ putD n k ds lo x, 0 ≤ d ∧ d < 2 ^ n
  | 0, _, _, _, h => h
  | k + 1, ds, lo, x, h => by
    rw [putD]
    refine putD_rng n k _ _ _ fun d hd => ?_
    rcases List.mem_or_eq_of_mem_set hd with h1 | h1
    · exact h d h1
    · rw [h1]
      have : x % 2 ^ n < 2 ^ n := Nat.mod_lt _ (Nat.pow_pos (by decide))
      exact ⟨Int.natCast_nonneg _, by exact_mod_cast this⟩
/-- what the loop of _divmod_pos keeps -/
noncomputable def DivI (n : Nat) (b : Int) (pre qs : List Int) (r : Int) : Prop := bigV n qs * b + r = bigV n pre ∧ 0 ≤ r ∧ r < b ∧ (∀ q ∈ qs, 0 ≤ q ∧ q < 2 ^ n) ∧ qs.length = pre.length
theorem DivI.zero {n : Nat} {b : Int} (hb : 1 ≤ b) : DivI n b [] [] 0 := ⟨by simp [bigV], Int.le_refl _, by lia, fun _ h => (nomatch h), rfl⟩
theorem DivI.step {n : Nat} {b : Int} {pre qs : List Int} {r d : Int} (hb : 1 ≤ b) (h : DivI n b pre qs r) (hd : 0 ≤ d ∧ d < 2 ^ n) : DivI n b (pre ++ [d]) (qs ++ [(r * 2 ^ n + d).fdiv b]) ((r * 2 ^ n + d).fmod b) := by
  obtain ⟨h1, h2, h3, h4, h5⟩ := h
  have hp : (0 : Int) < 2 ^ n := Int.pow_pos (by decide)
  have hr : 0 ≤ r * 2 ^ n := Int.mul_nonneg h2 (Int.le_of_lt hp)
  have e1 : (r * 2 ^ n + d).fdiv b = (r * 2 ^ n + d) / b := Int.fdiv_eq_ediv_of_nonneg _ (by lia)
  have e2 : (r * 2 ^ n + d).fmod b = (r * 2 ^ n + d) % b := Int.fmod_eq_emod_of_nonneg _ (by lia)
  rw [e1, e2]
  refine ⟨?_, Int.emod_nonneg _ (by lia), Int.emod_lt_of_pos _ (by lia), ?_, by simp [h5]⟩
  · rw [bigV_snoc, bigV_snoc, ← h1, Int.add_mul, Int.add_mul, Int.add_assoc, Int.mul_comm ((r * 2 ^ n + d) / b) b, Int.mul_ediv_add_emod, Int.mul_assoc, Int.mul_assoc, Int.mul_comm (2 ^ n) b, Int.add_assoc]
  · intro q hq
    rcases List.mem_append.mp hq with hq | hq
    · exact h4 q hq
    · rw [List.mem_singleton.mp hq]
      refine ⟨Int.ediv_nonneg (by lia) (by lia), Int.ediv_lt_of_lt_mul (by lia) ?_⟩
      have : (r + 1) * 2 ^ n ≤ b * 2 ^ n := Int.mul_le_mul_of_nonneg_right (by lia) (Int.le_of_lt hp)
      rw [Int.add_mul, Int.one_mul] at this
      rw [Int.mul_comm (2 ^ n) b]
      lia
theorem DivI.done {n : Nat} {b : Int} {ds qs : List Int} {r x : Int} (hb : 1 ≤ b) (h : DivI n b ds.reverse qs r) (hx : valD n ds ds.length 0 = x) : valD n qs.reverse qs.reverse.length 0 = x.fdiv b ∧ r = x.fmod b := by
  obtain ⟨h1, h2, h3, h4, h5⟩ := h
  rw [valD_big, List.reverse_reverse]
  rw [valD_big] at hx
  rw [hx] at h1
  rw [Int.fdiv_eq_ediv_of_nonneg _ (by lia), Int.fmod_eq_emod_of_nonneg _ (by lia)]
  have e : x = r + b * bigV n qs := by rw [← h1, Int.mul_comm]; lia
  constructor
  · rw [e, Int.add_mul_ediv_left _ _ (by lia), Int.ediv_eq_zero_of_lt h2 h3]; lia
  · rw [e, Int.add_mul_emod_self_left, Int.emod_eq_of_lt h2 h3]
section
variable {w : World} {mean : ExcName → Option PySem.Value} {mg mb : PySem.Str → Option PySem.Value} {dp un : Nat} {gd : Option (List Code)} {cn : PySem.Str} {cs : Scope} {a : Addr} {ccd : PySem.Value} {cl : List (PySem.Str × Addr)} {outer : List Env} {A₀ : Around} {base h₀ : Heap} {L : Addr} {m : PySem.Str → Option PySem.Value} {news : List (Addr × PySem.Obj)} {s : Shared}
    {Q E : PySem.Value → Shared → Prop}
end
end
theorem kw_C8b : True := (by k_with_none; w_top off; exact trivial)
section
open PySem PySem.W PyProof.Rows
open Lean Elab Tactic Meta
theorem fill8b : PySem.Challenge.rw_sr0071_01 = PySem.Challenge.rw_sr0071_01 ∧ hd0.heap_1 = hd0.heap_1 := by k_fill; exact ⟨rfl, rfl⟩
section
variable {w : World} {mean : ExcName → Option PySem.Value} {mg mb : PySem.Str → Option PySem.Value} {dp un : Nat} {gd : Option (List Code)} {cn : PySem.Str} {cs : Scope} {a : Addr} {ccd : PySem.Value} {cl : List (PySem.Str × Addr)} {outer : List Env} {A₀ : Around} {base h₀ : Heap} {L : Addr} {m : PySem.Str → Option PySem.Value} {news : List (Addr × PySem.Obj)} {s : Shared}
    {Q E : PySem.Value → Shared → Prop}
noncomputable def NotRec (o : PySem.Obj) : Prop := ∀ vs, o.data = .fields vs → ∀ q t, vs[1]? ≠ some (.str q t)
theorem NotRec.list {vs : Array PySem.Value} {e : Nat} : NotRec (listOf vs e) := fun _ h => by cases h
theorem NotRec.tab {q : PySem.Str} {a b : Int} {o : PySem.Obj} {nw : List (Addr × PySem.Obj)} (h : TabSt q a b o nw) : NotRec o := by
  rcases h with rfl | ⟨c, oc, vs, t, rfl, _⟩
  · intro vs h q t; cases h; intro e; cases e
  · intro vs h q t; cases h; intro e; cases e
theorem TabSt.mono {q : PySem.Str} {a b : Int} {o : PySem.Obj} {nw nw' : List (Addr × PySem.Obj)} (h : TabSt q a b o nw) (s : ∀ p ∈ nw, p ∈ nw') : TabSt q a b o nw' := by
  rcases h with h | ⟨c, oc, vs, t, h1, h2, h3, h4⟩
  · exact .inl h
  · exact .inr ⟨c, oc, vs, t, h1, s _ h2, h3, h4⟩
theorem TabSt.off {q : PySem.Str} {a b : Int} {o : PySem.Obj} {nw nw' : List (Addr × PySem.Obj)} (h : TabSt q a b o nw) (s : ∀ p ∈ nw, p ∈ nw' ∨ NotRec p.2) : TabSt q a b o nw' := by
  rcases h with h | ⟨c, oc, vs, t, h1, h2, h3, h4⟩
  · exact .inl h
  · rcases s _ h2 with h5 | h5
    · exact .inr ⟨c, oc, vs, t, h1, h5, h3, h4⟩
    · exact absurd h4 (h5 vs h3 _ _)
theorem bits_facts0 : ∀ b : Fin 14, 1 ≤ b.val → (1 ≤ Builtin.Int.intBits (b.val : Int) ∧ Builtin.Int.intBits (b.val : Int) ≤ 4) ∧ b.val < 2 ^ Builtin.Int.intBits (b.val : Int) := by decide +kernel
theorem bits_facts {b : Int} (h : 1 ≤ b ∧ b ≤ 13) : (1 ≤ Builtin.Int.intBits b ∧ Builtin.Int.intBits b ≤ 4) ∧ b < 2 ^ Builtin.Int.intBits b := by
  have := bits_facts0 ⟨b.toNat, by lia⟩ (by show 1 ≤ b.toNat; lia)
  have e : ((b.toNat : Nat) : Int) = b := by lia
  dsimp only at this
  rw [e] at this
  refine ⟨this.1, ?_⟩
  have h2 := this.2
  have : ((b.toNat : Nat) : Int) < ((2 ^ Builtin.Int.intBits b : Nat) : Int) := by exact_mod_cast h2
  rw [e] at this
  exact_mod_cast this
local macro_rules | `(tactic| walk_at "call ref") => `(tactic| (k_here; (with_reducible show wpAny _ _ (call (Value.ref 124) _) _ _ _); k_dflt (refine' i2d_any (by k_asm) (by k_asm) (by k_asm) (by k_asm) (by k_asm) (by first | rfl | assumption) (by assumption) (by assumption) (by assumption) (by assumption) (by assumption) (by ktr_room) (by ktr_units) ?_; k_whole; intro l' vs' e' o' tl' h' tk' F' N' l1' l2' S' l3' i'; (try dsimp only))))
local macro_rules | `(tactic| walk_at "call ref") => `(tactic| (k_here; (with_reducible show wpAny _ _ (call (Value.ref 110) _) _ _ _); k_dflt (refine' div2_spec (by k_asm) (by k_asm) (by k_asm) (by k_asm) (by k_asm) (by first | rfl | assumption) (by assumption) (by assumption) (by lia) (by ktr_room) (by ktr_units) ?_; k_whole; intro D' t1' t2' e' h' tk' F' N' l1'; (try dsimp only))))
local macro_rules | `(tactic| walk_at "binaryOp LShift int int") => `(tactic| (k_here; k_dflt (refine lsh_eq (by lia) (by lia) (by assumption) (by assumption) ?_)))
theorem shl_rng {r k b : Int} {n : Nat} (hr : 0 ≤ r ∧ r < b) (hb : 1 ≤ b ∧ b ≤ 13) (hn : 1 ≤ n ∧ n ≤ 4) (hk : 0 ≤ k ∧ k < 2 ^ n) : 0 ≤ r * 2 ^ n + k ∧ r * 2 ^ n + k < 256 := by
  have : n = 1 ∨ n = 2 ∨ n = 3 ∨ n = 4 := by lia
  rcases this with h | h | h | h <;> subst h <;> lia
local macro_rules | `(tactic| walk_at "call builtin:list.reverse") => `(tactic| (k_here; (with_reducible show wpAny _ _ (call (Value.builtin _) [Value.ref _]) _ _ _); k_dflt (refine' kl_reverse (by k_asm) (by k_asm) (by exact rfl) (by k_upd) (by (rw [sizeLine_eq]; exact Nat.le_trans (by assumption) (by decide))) ?_); intro h' F' N'))
local macro_rules | `(tactic| walk_at "newTuple") => `(tactic| (k_here; k_dflt (refine' kup_newTuple (by k_asm) (by k_asm) ?_ (by kmk_size)); intro D' h' F' N' l1; (try k_lt l1); (try k_sweep)))
theorem dp_ret {D lq l' : Addr} {q r q' r' : Int} {t1 t2 : Tok} {e : Nat} {o' o2 o2n ox oy : PySem.Obj} {tl tl' tl2 : List (Addr × PySem.Obj)} {h' : Heap} {tk' : Nat}
    (hret : ∀ (D : Addr) (t1 t2 : Tok) (e : Nat) (o1' o2' : PySem.Obj) (tl : List (Addr × PySem.Obj)) h' tk', Fr h₀ L h' m → News h₀ L h' ((D, tupO [.int q t1, .int r t2] e) :: (119, o1') :: (126, o2') :: (tl ++ news)) → TabSt (Str.ofString "_int2digits.<locals>.inner") 71 4 o1' (tl ++ news) → TabSt (Str.ofString "_digits2int.<locals>.inner") 86 4 o2' (tl ++ news) → (∀ p ∈ tl, (∀ q ∈ news, p.1 ≠ q.1) ∧ p.1 ≠ 119 ∧ p.1 ≠ 126) → (∀ q ∈ tl ++ news, q.1 < D) ∧ (126 : Nat) < D → Q (.ref D) { s with heap := h', toks := tk' })
    (F : Fr h₀ L h' m) (N : News h₀ L h' ((D, tupO [.int q' t1, .int r' t2] e) :: (126, o2n) :: (tl2 ++ ((lq, ox) :: (119, o') :: (l', oy) :: ((tl' ++ news) ++ tl))))) (lD : AllLt D ((126, o2n) :: (tl2 ++ ((lq, ox) :: (119, o') :: (l', oy) :: ((tl' ++ news) ++ tl)))))
    (eq : q' = q) (er : r' = r) (S' : TabSt (Str.ofString "_int2digits.<locals>.inner") 71 4 o' (tl' ++ (126, o2) :: news)) (n2 : NotRec o2) (S9 : TabSt (Str.ofString "_digits2int.<locals>.inner") 86 4 o2n (tl2 ++ ((lq, ox) :: (119, o') :: (l', oy) :: ((tl' ++ news) ++ tl)))) (nx : NotRec ox) (ny : NotRec oy)
    (l9 : ∀ p ∈ tl2, ∀ q ∈ (lq, ox) :: (119, o') :: (l', oy) :: ((tl' ++ news) ++ tl), q.1 < p.1) (h126 : (126 : Nat) < lq) (lC : ∀ p ∈ tl', (∀ q ∈ (126, o2) :: news, q.1 < p.1) ∧ l' < p.1) (hoff : OwnOff tl (lq :: 119 :: l' :: (tl' ++ (126, o2) :: news).map (·.1))) : Q (.ref D) { s with heap := h', toks := tk' } := by
  subst eq er
  have ld := allLt_out lD
  have hn : ∀ q ∈ news, q ∈ tl' ++ (126, o2) :: news := fun q hq => List.mem_append.mpr (.inr (.tail _ hq))
  refine hret D t1 t2 e o' o2n (tl2 ++ (tl' ++ tl)) h' tk' F (fun p hp => N p ?_) (S'.off fun p hp => ?_) (S9.off fun p hp => ?_) (fun p hp => ?_) ⟨fun p hp => ld p ?_, ld _ (.head _)⟩
  · simp only [List.mem_cons, List.mem_append] at hp ⊢
    rcases hp with h | h | h | (h | h | h) | h <;> simp [h]
  · rcases List.mem_append.mp hp with h | h
    · exact .inl (by simp [h])
    · rcases List.mem_cons.mp h with h | h
      · rw [h]; exact .inr n2
      · exact .inl (by simp [h])
  · simp only [List.mem_cons, List.mem_append] at hp
    rcases hp with h | h | h | h | (h | h) | h
    · exact .inl (by simp [h])
    · rw [h]; exact .inr nx
    · rw [h]; exact .inr (NotRec.tab S')
    · rw [h]; exact .inr ny
    · exact .inl (by simp [h])
    · exact .inl (by simp [h])
    · exact .inl (by simp [h])
  · rcases List.mem_append.mp hp with h | h
    · have k1 := l9 p h
      refine ⟨fun q hq => (Nat.ne_of_lt (k1 q (by simp [hq]))).symm, (Nat.ne_of_lt (k1 (119, o') (by simp))).symm, (Nat.ne_of_lt (Nat.lt_trans h126 (k1 (lq, ox) (.head _)))).symm⟩
    · rcases List.mem_append.mp h with h | h
      · have k1 := (lC p h).1
        have k2 : (126 : Nat) < p.1 := k1 (126, o2) (.head _)
        refine ⟨fun q hq => (Nat.ne_of_lt (k1 q (.tail _ hq))).symm, ?_, (Nat.ne_of_lt k2).symm⟩
        exact (Nat.ne_of_lt (Nat.lt_trans (by decide : (119 : Nat) < 126) k2)).symm
      · refine ⟨fun q hq => hoff p h q.1 (.tail _ (.tail _ (.tail _ (List.mem_map.mpr ⟨q, hn q hq, rfl⟩)))), hoff p h 119 (.tail _ (.head _)), hoff p h 126 (.tail _ (.tail _ (.tail _ (List.mem_map.mpr ⟨(126, o2), by simp, rfl⟩))))⟩
  · simp only [List.mem_cons, List.mem_append] at hp ⊢
    rcases hp with (h | h | h) | h <;> simp [h]
local macro_rules | `(tactic| walk_at "exec For Name Call cons nil") => `(tactic| (k_here; k_dflt (refine' my_For ?_)))
theorem divpos_spec {x : Nat} {b : Int} {o1 o2 : PySem.Obj} {tx tb : Tok}
    (B : Below A₀ base outer h₀) (F : Fr h₀ L s.heap m) (X : (hd0.heap_1 w.params).In h₀) (N : News h₀ L s.heap ((119, o1) :: (126, o2) :: news)) (T : Top topProg LS mean mg mb h₀) (hk : cs.kind = .function)
    (C1 : CodeHd h₀ 123 119) (C2 : CodeHd h₀ 130 126) (hn1 : ∀ p ∈ news, p.1 ≠ 119) (hn2 : ∀ p ∈ news, p.1 ≠ 126) (S1 : TabSt (Str.ofString "_int2digits.<locals>.inner") 71 4 o1 news) (S2 : TabSt (Str.ofString "_digits2int.<locals>.inner") 86 4 o2 news)
    (hx : x < 128) (hb : 1 ≤ b ∧ b ≤ 13)
    (hd : dp + 40 < recursionLimit) (hu : un + 600 < cLine)
    (hret : ∀ (D : Addr) (t1 t2 : Tok) (e : Nat) (o1' o2' : PySem.Obj) (tl : List (Addr × PySem.Obj)) h' tk', Fr h₀ L h' m → News h₀ L h' ((D, tupO [.int ((x : Int).fdiv b) t1, .int ((x : Int).fmod b) t2] e) :: (119, o1') :: (126, o2') :: (tl ++ news)) → TabSt (Str.ofString "_int2digits.<locals>.inner") 71 4 o1' (tl ++ news) → TabSt (Str.ofString "_digits2int.<locals>.inner") 86 4 o2' (tl ++ news) → (∀ p ∈ tl, (∀ q ∈ news, p.1 ≠ q.1) ∧ p.1 ≠ 119 ∧ p.1 ≠ 126) → (∀ q ∈ tl ++ news, q.1 < D) ∧ (126 : Nat) < D → Q (.ref D) { s with heap := h', toks := tk' }) :
    wpAny (model PG w) (ktrTop dp un gd cn cs L a ccd cl outer) (call (.ref 138) [.int (x : Int) tx, .int b tb]) Q E s := by
  obtain ⟨hn, hbn⟩ := bits_facts hb
  have hS1 : TabSt (Str.ofString "_int2digits.<locals>.inner") 71 4 o1 ((126, o2) :: news) := by
    rcases S1 with h | ⟨c, oc, vs, t, h1, h2, h3, h4⟩
    · exact .inl h
    · exact .inr ⟨c, oc, vs, t, h1, .tail _ h2, h3, h4⟩
  have hn1' : ∀ p ∈ (126, o2) :: news, p.1 ≠ 119 := fun p hp => by
    rcases List.mem_cons.mp hp with rfl | hp
    · show (126 : Nat) ≠ 119; decide
    · exact hn1 p hp
  refine wpAny_call ?_
  k_dflt cell_enter
  have C1' : CodeHd _ 123 119 := C1.keeps (Fr.keep (by assumption))
  have C2' : CodeHd _ 130 126 := C2.keeps (Fr.keep (by assumption))
  repeat (first | walk1 | (dsimp only; walk1))
  rename_i g L' h1 FG B' X' T' h2 l' vs' e' o' tl' h3 tk3 lA lB S' lC i' h4 tk4 h5 lq h6 lQ h7 D' h8 F2 N2 lD
  have dl := dig_len hx hn
  have df := dig_facts hx hn
  have hR : ∀ d ∈ List.replicate (((Builtin.Int.intBits (x : Int) : Int) + (Builtin.Int.intBits b : Int) - 1).fdiv (Builtin.Int.intBits b : Int)).toNat (0 : Int), 0 ≤ d ∧ d < 2 ^ Builtin.Int.intBits b := fun d hd => by
    rw [List.eq_of_mem_replicate hd]; exact ⟨Int.le_refl _, Int.pow_pos (by decide)⟩
  have hrng := putD_rng (Builtin.Int.intBits b) (((Builtin.Int.intBits (x : Int) : Int) + (Builtin.Int.intBits b : Int) - 1).fdiv (Builtin.Int.intBits b : Int)).toNat _ 0 x hR
  have hlen := putD_len (Builtin.Int.intBits b) (((Builtin.Int.intBits (x : Int) : Int) + (Builtin.Int.intBits b : Int) - 1).fdiv (Builtin.Int.intBits b : Int)).toNat (List.replicate (((Builtin.Int.intBits (x : Int) : Int) + (Builtin.Int.intBits b : Int) - 1).fdiv (Builtin.Int.intBits b : Int)).toNat 0) 0 x
  rw [List.length_replicate] at hlen
  have hval : valD (Builtin.Int.intBits b) (putD (Builtin.Int.intBits b) (((Builtin.Int.intBits (x : Int) : Int) + (Builtin.Int.intBits b : Int) - 1).fdiv (Builtin.Int.intBits b : Int)).toNat (List.replicate (((Builtin.Int.intBits (x : Int) : Int) + (Builtin.Int.intBits b : Int) - 1).fdiv (Builtin.Int.intBits b : Int)).toNat 0) 0 x) (putD (Builtin.Int.intBits b) (((Builtin.Int.intBits (x : Int) : Int) + (Builtin.Int.intBits b : Int) - 1).fdiv (Builtin.Int.intBits b : Int)).toNat (List.replicate (((Builtin.Int.intBits (x : Int) : Int) + (Builtin.Int.intBits b : Int) - 1).fdiv (Builtin.Int.intBits b : Int)).toNat 0) 0 x).length 0 = (x : Int) := by
    rw [hlen]; exact valD_putD _ _ _ _ _ (by rw [List.length_replicate]; lia) df.2.1
  have h7len := df.1
  rw [← hlen] at h7len
  clear dl df hR hlen
  generalize hds : putD (Builtin.Int.intBits b) _ _ 0 x = ds at *
  have hrr : ∀ d ∈ ds.reverse, 0 ≤ d ∧ d < 2 ^ Builtin.Int.intBits b := fun d hd => hrng d (List.mem_reverse.mp hd)
  with_unfolding_all refine' kdc_rev (σ := List PySem.Value × Nat × List Int × Int × Tok) (x := Str.ofString "a_digit") (D := D') (l := l') (e := e') (fun c => [(lq, listOf c.1.toArray c.2.1)]) ((119, o') :: (l', listOf vs'.toArray e') :: (tl' ++ (126, o2) :: news)) (fun c => [(Str.ofString "r", .int c.2.2.2.1 c.2.2.2.2)]) (fun _ c => IntsAre c.1 c.2.2.1) [Str.ofString "a_digit", Str.ofString "q_digit"] (fun pre c => DivI (Builtin.Int.intBits b) b pre c.2.2.1 c.2.2.2.1) (lq :: 119 :: l' :: (tl' ++ (126, o2) :: news).map (·.1)) ⟨[], 0, [], 0, ?tr⟩ (by rfl) (by rfl) i' F2 N2 (allLt_out lD) ?hm ?ki ?ka ?kf ?kk ?kp (fun _ => rfl) (by passes_own) ?turn ?done
  case hm => exact .tail _ (.head _)
  case ki => kd_inAll
  case ka => intro c9; kd_rfl
  case kf => exact .nil
  case kk => kst_all
  case kp => exact DivI.zero hb.1
  case turn =>
    clear F2 N2 hret
    rintro ⟨vsQ, eQ, qs, r, tr⟩ tl pre rest k t u h tk own hsplit hsep hoff hQ hP F1 N1
    have kMark := kdMark
    have kMark2 := kstMark
    dsimp only [List.cons_append, List.nil_append, kstB] at F1 N1 hQ hP
    have hk9 : 0 ≤ k ∧ k < 2 ^ Builtin.Int.intBits b := hrr k (by rw [hsplit]; exact List.mem_append.mpr (.inr (.head _)))
    have hr9 : 0 ≤ r ∧ r < 2 ^ 60 := ⟨hP.2.1, by have := hP.2.2.1; lia⟩
    have hx9 := shl_rng ⟨hP.2.1, hP.2.2.1⟩ hb hn hk9
    have he9 : r * 2 ^ ((Builtin.Int.intBits b : Nat) : Int).toNat = r * 2 ^ Builtin.Int.intBits b := rfl
    have hl9 : vsQ.length ≤ 7 := by
      have e1 := congrArg List.length hsplit
      have e2 := hQ.length
      have e3 := hP.2.2.2.2
      rw [List.length_reverse, List.length_append, List.length_cons] at e1
      lia
    (try k_fold)
    iterate 45 (first | walk1 | (dsimp only; walk1))
    kd_ends 8
    rotate_left 4
    exact qs ++ [(r * 2 ^ Builtin.Int.intBits b + k).fdiv b]
    exact (r * 2 ^ Builtin.Int.intBits b + k).fmod b
    rotate_left 1
    case kdk => kst_all
    case kdr => kst_same
    case kdp => exact hP.step hb.1 hk9
    case kdf => exact hQ.append (.cons _ _ .nil)
  case done =>
    clear F2 N2
    rintro ⟨vsQ, eQ, qs, r, tr⟩ tl u h tk hoff hQ hP F1 N1
    have kMark := kdMark
    have kMark2 := kstMark
    dsimp only [List.cons_append, List.nil_append, kstB] at F1 N1 hQ hP
    (try k_fold)
    have hlq : vsQ.length ≤ 7 := by
      have e2 := hQ.length
      have e3 := hP.2.2.2.2
      rw [List.length_reverse] at e3
      lia
    iterate 18 (first | walk1 | (dsimp only; walk1))
    rename Fr _ _ _ _ => F3
    rename News _ _ _ _ => N3
    obtain ⟨hq9, hr9⟩ := hP.done hb.1 hval
    have hD2 : ∀ d ∈ qs.reverse, 0 ≤ d ∧ d < 2 ^ Builtin.Int.intBits b := fun d hd => hP.2.2.2.1 d (List.mem_reverse.mp hd)
    have hl2 : qs.reverse.length ≤ 7 := by
      have e3 := hP.2.2.2.2
      rw [List.length_reverse] at e3 ⊢
      lia
    have ao := allLt_out (show AllLt lq ((119, o') :: (l', listOf vs'.toArray e') :: (tl' ++ (126, o2) :: news)) from lQ)
    have h126l : (126 : Nat) < l' := lA (126, o2) (.head _)
    have h126q : (126 : Nat) < lq := ao (126, o2) (.tail _ (.tail _ (List.mem_append.mpr (.inr (.head _)))))
    have hX : ∀ p ∈ (lq, listOf vsQ.reverse.toArray eQ) :: (119, o') :: (l', listOf vs'.toArray e') :: ((tl' ++ news) ++ tl), p.1 ≠ 126 := fun p hp => by
      rcases List.mem_cons.mp hp with rfl | hp
      · exact (Nat.ne_of_lt h126q).symm
      rcases List.mem_cons.mp hp with rfl | hp
      · show (119 : Nat) ≠ 126; decide
      rcases List.mem_cons.mp hp with rfl | hp
      · exact (Nat.ne_of_lt h126l).symm
      rcases List.mem_append.mp hp with hp | hp
      · rcases List.mem_append.mp hp with hp | hp
        · exact (Nat.ne_of_lt ((lC p hp).1 (126, o2) (.head _))).symm
        · exact hn2 p hp
      · exact hoff p hp 126 (.tail _ (.tail _ (.tail _ (List.mem_map.mpr ⟨(126, o2), List.mem_append.mpr (.inr (.head _)), rfl⟩))))
    have N4 : News g L' _ ((126, o2) :: (lq, listOf vsQ.reverse.toArray eQ) :: (119, o') :: (l', listOf vs'.toArray e') :: ((tl' ++ news) ++ tl)) := fun p hp => N3 p (by
      simp only [List.mem_cons, List.mem_append] at hp ⊢
      rcases hp with h | h | h | h | (h | h) | h <;> simp [h])
    have S2' : TabSt (Str.ofString "_digits2int.<locals>.inner") 86 4 o2 ((lq, listOf vsQ.reverse.toArray eQ) :: (119, o') :: (l', listOf vs'.toArray e') :: ((tl' ++ news) ++ tl)) := S2.mono fun p hp => by simp [hp]
    k_dflt (refine' d2i_any ?dB F3 X' N4 T' ?dk C2' hX S2' (.head _) (IntsAre.reverse hQ) hn hl2 hD2 ?dd ?du ?_)
    case dB => k_asm
    case dk => first | rfl | assumption
    case dd => ktr_room
    case du => ktr_units
    intro t9 o2n tl2 h9 tk9 F9 N9 S9 l9
    clear F3 N3 N4
    rw [hq9]
    repeat (first | walk1 | (dsimp only; walk1))
    exact dp_ret (Q := Q) hret (by assumption) (by assumption) (by assumption) rfl hr9 S' (NotRec.tab S2) S9 NotRec.list NotRec.list l9 h126q lC hoff
end
end
theorem kw_C9 : True := (by k_with_none; w_top off; exact trivial)
section
open PySem PySem.W PyProof.Rows
open Lean Elab Tactic Meta
theorem fill9 : PySem.Challenge.rw_sr0071_01 = PySem.Challenge.rw_sr0071_01 ∧ hd0.heap_1 = hd0.heap_1 := by k_fill; exact ⟨rfl, rfl⟩
section
variable {w : World} {mean : ExcName → Option PySem.Value} {mg mb : PySem.Str → Option PySem.Value} {dp un : Nat} {gd : Option (List Code)} {cn : PySem.Str} {cs : Scope} {a : Addr} {ccd : PySem.Value} {cl : List (PySem.Str × Addr)} {outer : List Env} {A₀ : Around} {base h₀ : Heap} {L : Addr} {m : PySem.Str → Option PySem.Value} {news : List (Addr × PySem.Obj)} {s : Shared}
    {Q E : PySem.Value → Shared → Prop}
local macro_rules | `(tactic| walk_at "call ref") => `(tactic| (k_here; (with_reducible show wpAny _ _ (call (Value.ref 138) _) _ _ _); k_dflt (refine' divpos_spec (by k_asm) (by k_asm) (by k_asm) (by k_asm) (by k_asm) (by first | rfl | assumption) (by assumption) (by assumption) (by assumption) (by assumption) (by assumption) (by assumption) (by assumption) (by assumption) (by ktr_room) (by ktr_units) ?_; k_whole; intro D' t1' t2' e' o1' o2' tl' h' tk' F' N' S1' S2' l1' l2'; (try dsimp only))))
local macro_rules | `(tactic| walk_at "ite") => `(tactic| (k_here; k_openite; first | (refine ite_pos (by (simp only [decide_eq_true_eq, beq_iff_eq]; lia)) ?_) | (refine ite_neg (by (simp only [decide_eq_true_eq, beq_iff_eq]; lia)) ?_)))
theorem im_ret {D : Addr} {q r : Int} {t1 t2 : Tok} {e : Nat} {o1 o2 : PySem.Obj} {tl : List (Addr × PySem.Obj)} {h' : Heap} {tk' : Nat}
    (hret : ∀ (D : Addr) (t1 t2 : Tok) (e : Nat) (o1' o2' : PySem.Obj) (tl : List (Addr × PySem.Obj)) h' tk', Fr h₀ L h' m → News h₀ L h' ((D, tupO [.int q t1, .int r t2] e) :: (119, o1') :: (126, o2') :: (tl ++ news)) → TabSt (Str.ofString "_int2digits.<locals>.inner") 71 4 o1' (tl ++ news) → TabSt (Str.ofString "_digits2int.<locals>.inner") 86 4 o2' (tl ++ news) → (∀ p ∈ tl, (∀ q ∈ news, p.1 ≠ q.1) ∧ p.1 ≠ 119 ∧ p.1 ≠ 126) → (∀ q ∈ tl ++ news, q.1 < D) ∧ (126 : Nat) < D → Q (.ref D) { s with heap := h', toks := tk' })
    (F : Fr h₀ L h' m) (N : News h₀ L h' ((D, tupO [.int q t1, .int r t2] e) :: (119, o1) :: (126, o2) :: (tl ++ news))) (S1 : TabSt (Str.ofString "_int2digits.<locals>.inner") 71 4 o1 (tl ++ news)) (S2 : TabSt (Str.ofString "_digits2int.<locals>.inner") 86 4 o2 (tl ++ news)) (l1 : ∀ p ∈ tl, (∀ q ∈ news, p.1 ≠ q.1) ∧ p.1 ≠ 119 ∧ p.1 ≠ 126) (l2 : (∀ q ∈ tl ++ news, q.1 < D) ∧ (126 : Nat) < D) : Q (.ref D) { s with heap := h', toks := tk' } := hret D t1 t2 e o1 o2 tl h' tk' F N S1 S2 l1 l2
theorem intdiv_spec {x : Nat} {b : Int} {o1 o2 : PySem.Obj} {tx tb : Tok}
    (B : Below A₀ base outer h₀) (F : Fr h₀ L s.heap m) (X : (hd0.heap_1 w.params).In h₀) (N : News h₀ L s.heap ((119, o1) :: (126, o2) :: news)) (T : Top topProg LS mean mg mb h₀) (hk : cs.kind = .function)
    (C1 : CodeHd h₀ 123 119) (C2 : CodeHd h₀ 130 126) (hn1 : ∀ p ∈ news, p.1 ≠ 119) (hn2 : ∀ p ∈ news, p.1 ≠ 126) (S1 : TabSt (Str.ofString "_int2digits.<locals>.inner") 71 4 o1 news) (S2 : TabSt (Str.ofString "_digits2int.<locals>.inner") 86 4 o2 news)
    (hx : x < 128) (hb : 1 ≤ b ∧ b ≤ 13)
    (hd : dp + 50 < recursionLimit) (hu : un + 700 < cLine)
    (hret : ∀ (D : Addr) (t1 t2 : Tok) (e : Nat) (o1' o2' : PySem.Obj) (tl : List (Addr × PySem.Obj)) h' tk', Fr h₀ L h' m → News h₀ L h' ((D, tupO [.int ((x : Int).fdiv b) t1, .int ((x : Int).fmod b) t2] e) :: (119, o1') :: (126, o2') :: (tl ++ news)) → TabSt (Str.ofString "_int2digits.<locals>.inner") 71 4 o1' (tl ++ news) → TabSt (Str.ofString "_digits2int.<locals>.inner") 86 4 o2' (tl ++ news) → (∀ p ∈ tl, (∀ q ∈ news, p.1 ≠ q.1) ∧ p.1 ≠ 119 ∧ p.1 ≠ 126) → (∀ q ∈ tl ++ news, q.1 < D) ∧ (126 : Nat) < D → Q (.ref D) { s with heap := h', toks := tk' }) :
    wpAny (model PG w) (ktrTop dp un gd cn cs L a ccd cl outer) (call (.ref 145) [.int (x : Int) tx, .int b tb]) Q E s := by
  refine wpAny_call ?_
  k_dflt cell_enter
  have C1' : CodeHd _ 123 119 := C1.keeps (Fr.keep (by assumption))
  have C2' : CodeHd _ 130 126 := C2.keeps (Fr.keep (by assumption))
  repeat (first | walk1 | (dsimp only; walk1))
  exact im_ret (Q := Q) hret (by assumption) (by assumption) (by assumption) (by assumption) (by assumption) (by assumption)
end
end
theorem kw_D1 : True := (by k_with_none; w_top off; exact trivial)
section
open PySem PySem.W PyProof.Rows PySem.Calls Builtin Builtin.ObjectAttr Builtin.Getset_descriptor
open Lean Elab Tactic Meta
noncomputable def makesL (K : Frag) (C : Addr) : Bool := match K.lookup C with
  | some ⟨_, _, .cls cd, sl⟩ => !cd.abstract && !cd.hasDel && (sl.toList[4]?).join == some (.builtin "list.__new__") && !cd.mro.isEmpty && cd.mro.contains (.ref C) && cd.mro.contains (.type "list") &&
      specialIn K (.ref C) "__call__" == some (some (.builtin "type.__call__")) && instIn K (.ref C) (.type "type") == some true
  | _ => false
structure MakesL (M : Model) (h : Heap) (C : Addr) : Prop where
  obj : ∃ oc od cd sl, h.get? C = some ⟨oc, od, .cls cd, sl⟩ ∧ cd.abstract = false ∧ cd.hasDel = false ∧ cd.mro.isEmpty = false
  made : Looks M h (Bind.madeBy (.ref C)) (some "list.__new__")
  base : Looks M h (Bind.staticBase (.ref C)) (.ref C)
  self : Looks M h (isSubtype (.ref C) (.ref C)) true
  top : Looks M h (isSubtype (.ref C) (.type "list")) true
  call : Looks M h (specialOf (.ref C) "__call__") (some (.builtin "type.__call__"))
  typ : Looks M h (isInstance (.ref C) (.type "type")) true
theorem makesL_of {K : Frag} {M : Model} {h : Heap} (X : K.In h) {C : Addr} (e : makesL K C = true) : MakesL M h C := by
  unfold makesL at e
  split at e
  · rename_i oc od cd sl ho
    simp only [Bool.and_eq_true, Bool.not_eq_true', beq_iff_eq] at e
    obtain ⟨⟨⟨⟨⟨⟨⟨e1, e2⟩, e3⟩, e4⟩, e5⟩, e6⟩, e7⟩, e8⟩ := e
    have hc : clsIn K C = some cd := by unfold clsIn; rw [ho]
    have hm : Looks M h (mroOf (.ref C)) cd.mro := (looks_clsIn X hc).andThen .now
    obtain ⟨c, l, hl⟩ : ∃ c l, cd.mro = c :: l := by cases q : cd.mro with | nil => rw [q] at e4; cases e4 | cons c l => exact ⟨c, l, rfl⟩
    have made : Looks M h (Bind.madeBy (.ref C)) (some "list.__new__") := by
      intro A Q E s k q
      unfold Bind.madeBy
      refine wpAny_bind (hm A _ E s k ?_)
      rw [hl, List.forIn_cons]
      refine wpAny_bind (wpAny_bind (wpAny_bind (wpAny_bind (wpAny_loadPart (k _ _ (X _ _ ho)) (wpAny_pure ?_)))))
      dsimp only
      rw [← Array.getElem?_toList, e3]
      exact wpAny_pure (wpAny_pure (wpAny_pure q))
    refine ⟨⟨oc, od, cd, sl, X _ _ ho, e1, e2, e4⟩, made, ?_, looks_mroIn X ?_, looks_mroIn X ?_, looks_specialIn X e7, looks_instIn X e8⟩
    · intro A Q E s k q
      unfold Bind.staticBase
      refine wpAny_bind (hm A _ E s k ?_)
      rw [hl, List.forIn_cons]
      exact wpAny_bind (wpAny_bind (wpAny_bind (made A _ E s k (wpAny_pure (wpAny_pure (wpAny_pure q))))))
    · unfold mroIn; rw [hc, Option.bind_some, if_neg (by rw [e4]; decide), e5]
    · unfold mroIn; rw [hc, Option.bind_some, if_neg (by rw [e4]; decide), e6]
  · cases e
theorem mk99 {P : PySem.Params} : makesL (hd0.heap_1 P) 99 = true := by kernel_rfl
noncomputable abbrev accObj (C dx : Addr) (vs : List PySem.Value) (n : Nat) : PySem.Obj := { cls := .ref C, dict := some dx, data := .seq vs.toArray n }
theorem ln_kind : builtinKind "list.__new__" = some .builtinFn := by decide +kernel
theorem ln_split : splitId "list.__new__" = some ("list", "__new__") := by decide +kernel
theorem ln_args (C : Addr) : argsOk "list.__new__" ⟨[.ref C], []⟩ := by unfold argsOk; kernel_rfl
section
variable {prog : PySem.Program} {w : World} {A : Around} {K : Frag} {C : Addr} {R : Result → Shared → Prop} {h : Heap} {g : Array GenState} {d : Drawn} {t : Nat} {os : OsState}
theorem new_L (Y : MakesL (model prog w) h C)
    (hq : R (.ok (.ret (.ref (h.objs.size + 1)))) ⟨(h.push emptyDict).push (accObj C h.objs.size [] 0), g, d, t, os⟩) :
    codeAny (model prog w) A (.call (.builtin "list.__new__") ⟨[.ref C], []⟩) R ⟨h, g, d, t, os⟩ := by
  obtain ⟨⟨oc, od, cd, sl, hC, e1, e2, e4⟩, made, base, self, top, call, typ⟩ := Y
  have ha := ln_args C
  have fin : codeAny (model prog w) A (.builtin "list.__new__" ⟨[.ref C], []⟩) R ⟨h, g, d, t, os⟩ := by
    refine PySem.codeAny_builtin_stack PySem.F.entry_list_new rfl fun p st => ?_
    have hown := PySem.owner_list_new
    have hC' : ((h.push emptyDict).push (accObj C h.objs.size [] 0)).get? C = _ := Heap.get?_push_of_some _ (Heap.get?_push_of_some _ hC)
    simp only [hown]
    repeat (first | simp only [Bool.false_eq_true, if_false, Bool.not_true] | lk)
    rw [e2]
    repeat (first | simp only [Bool.false_eq_true, if_false] | lk)
    show R _ _
    rw [Heap.size_push]
    exact hq
  refine codeAny_call_builtin_code (Code.quiet_builtin _ (by decide +kernel)) ?_
  simp only [checkBuiltinCall, ln_kind, ln_split]
  cases hsig : Manifest.signature? "list.__new__" with
  | none => repeat (first | exact fin | simp only [bne_self_eq_false, Bool.false_eq_true, if_false] | lk)
  | some sig =>
    simp only [argsOk, hsig] at ha
    have h2 : Bind.checkArgs "list.__new__" sig ⟨[.ref C], []⟩ = pure () := ha
    simp only [h2]
    repeat (first | exact fin | simp only [bne_self_eq_false, Bool.false_eq_true, if_false] | lk)
theorem makeL_core {init : PySem.Value} (Y : MakesL (model prog w) h C) (hi : Looks (model prog w) h (typeLookup (.ref C) "__init__") (some init))
    (hb : ∀ self, Looks (model prog w) h (bindSpecial init self) (init, [self]))
    (hq : codeAny (model prog w) (A.under (.builtin "type.__call__" ⟨[.ref C], []⟩)) (.call init ⟨[.ref (h.objs.size + 1)], []⟩) (InitBack (h.objs.size + 1) R) ⟨(h.push emptyDict).push (accObj C h.objs.size [] 0), g, d, t, os⟩) :
    codeAny (model prog w) A (.call (.ref C) ⟨[], []⟩) R ⟨h, g, d, t, os⟩ := by
  have Y' := Y
  obtain ⟨⟨oc, od, cd, sl, hC, e1, e2, e4⟩, made, base, self, top, call, typ⟩ := Y
  refine codeAny_of_tree ?_
  show wpAny _ _ (callAny (.ref C) _) _ _ _
  refine nd_load hC ?_
  show wpAny _ _ (callAny.viaDunder (.ref C) _) _ _ _
  unfold callAny.viaDunder
  refine wpAny_bind (call.at ?_)
  dsimp only
  rw [tc_bind]
  refine wpAny_bind (wpAny_pure (wpAny_bind (wpAny_pure ?_)))
  refine wpAny_pure (a := Fin.again (.call (.builtin "type.__call__") ⟨[.ref C], []⟩)) (And.intro rfl ?_)
  refine codeAny_call_builtin_at (Code.quiet_builtin _ (by decide +kernel)) entry_typeCall (@check_slot (model prog w) _ _ _ "type.__call__" "type" "__call__" (.ref C) [] [] _ tc_kind tc_split typ (tc_args _ _ _) ?_)
  unfold Builtin.«type.__call__»
  have hm : Looks (model prog w) h (mroOf (.ref C)) cd.mro := ((Looks.ld (part := none) hC).andThen .now).andThen .now
  repeat (first | simp only [e4, Bool.false_eq_true, if_false] | with_reducible refine wpAny_call ?_ | lk)
  refine new_L Y' ?_
  have k : ∀ b o, h.get? b = some o → ((h.push emptyDict).push (accObj C h.objs.size [] 0)).get? b = some o := fun b o e => Heap.get?_push_of_some _ (Heap.get?_push_of_some _ e)
  have hx : ((h.push emptyDict).push (accObj C h.objs.size [] 0)).get? (h.objs.size + 1) = some (accObj C h.objs.size [] 0) := by heap_get
  have t1 : Looks (model prog w) ((h.push emptyDict).push (accObj C h.objs.size [] 0)) (typeOf (.ref (h.objs.size + 1))) (.ref C) := (Looks.ld hx).andThen .now
  have s1 := self.keeps k
  have i1 := hi.keeps k
  have b1 := (hb (.ref (h.objs.size + 1))).keeps k
  unfold PySem.isInstance callSpecial? specialOf
  repeat (first | with_reducible refine wpAny_call ?_ | lk)
  refine codeAny_mono hq fun r s' z => ?_
  rcases r with e | (v | _ | _ | _) <;> first | exact z | exact z.elim | skip
  obtain ⟨rfl, z⟩ := z
  exact wpAny_pure (wpAny_pure z)
end
section
variable {prog : PySem.Program} {w : World} {A : Around} {K : Frag} {C x : Addr} {s : Shared} {h₀ : Heap} {L : Addr} {m : PySem.Str → Option PySem.Value} {news : List (Addr × PySem.Obj)} {Q E : PySem.Value → Shared → Prop}
theorem call_accL {fI : Addr} (F : Fr h₀ L s.heap m) (X₀ : K.In h₀) (N : News h₀ L s.heap news) (hm : makesL K C = true)
    (hi : findIn K (.ref C) "__init__" = some (some (.ref fI))) (hf : isFn K (.ref fI) = true)
    (h : ∀ x dx h', Fr h₀ L h' m → News h₀ L h' ((x, accObj C dx [] 0) :: (dx, dictOf [] 0) :: news) → (∀ p ∈ news, p.1 < dx) → dx < x →
      codeAny (model prog w) (A.under (.builtin "type.__call__" ⟨[.ref C], []⟩)) (.call (.ref fI) ⟨[.ref x], []⟩) (InitBack x fun r s' => match r with | .ok (.ret v) => Q v s' | .ok _ => False | .error e => E e s') { s with heap := h' }) :
    wpAny (model prog w) A (call (.ref C) [] []) Q E s := by
  have X := X₀.keeps F.keep
  refine wpAny_call ?_
  obtain ⟨hh, g, d, t, os⟩ := s
  refine makeL_core (makesL_of X hm) (looks_findIn X hi) (fun self => bind_fn X self (beq_iff_eq.mp hf)) (h _ hh.objs.size _ ((F.push _).push _) ?_ (fun p hp => Heap.lt_size (N p hp).1) (Nat.lt_succ_self _))
  have := (N.push F emptyDict).push (F.push _) (accObj C hh.objs.size [] 0)
  rwa [Heap.size_push] at this
end
end
theorem kw_D2 : True := (by k_with_none; w_top off; exact trivial)
section
open PySem PySem.W PyProof.Rows PySem.Calls Builtin Builtin.ObjectAttr Builtin.Getset_descriptor
open Lean Elab Tactic Meta
theorem refuse_lo (self : PySem.Value) : refuseLoop self "__setattr__" [.type "list", .type "object"] = pure () := by kernel_rfl
/-- the class C is a subclass of list and of nothing else -/
noncomputable def overList (K : Frag) (C : Addr) : Bool := (clsIn K C).any fun cd => cd.mro == [.ref C, .type "list", .type "object"] && cd.hasDict
theorem over99 {P : PySem.Params} : overList (hd0.heap_1 P) 99 = true := by kernel_rfl
section
variable {prog : PySem.Program} {w : World} {A : Around} {K : Frag} {C x : Addr} {s : Shared} {h₀ : Heap} {L : Addr} {m : PySem.Str → Option PySem.Value} {news : List (Addr × PySem.Obj)} {R : Result → Shared → Prop}
theorem osa_acc {ox : PySem.Obj} {dx : Addr} {name : PySem.Str} {tk : Tok} {v : PySem.Value} {pre post : List (Addr × PySem.Obj)} {es es' : List DictEntry} {n n' : Nat} (F : Fr h₀ L s.heap m) (N : News h₀ L s.heap (pre ++ (dx, dictOf es n) :: post)) (X : K.In s.heap)
    (I : InstAt s.heap x ox C (some (dictOf es n))) (hd : ox.dict = some dx) (hp : overList K C = true) (ht : findIn K (.ref C) name = some none)
    (hl : es.any (·.refKey) = false) (h1 : ∀ p ∈ pre, p.1 ≠ dx) (h2 : ∀ p ∈ post, p.1 ≠ dx)
    (e : (putL name (PyData.keyHash w.params name) (.str name s.toks) v es, putN name es n) = (es', n')) (hz : es'.length ≤ 1000)
    (h : ∀ h', Fr h₀ L h' m → News h₀ L h' (pre ++ (dx, dictOf es' n') :: post) → R (.ok (.ret .none)) { s with heap := h', toks := s.toks + 1 }) :
    codeAny (model prog w) A (.call (.builtin "object.__setattr__") ⟨[.ref x, .str name tk, v], []⟩) R s := by
  have SF := PySem.F.store_object
  obtain ⟨cd, hc, ho⟩ := any_some hp
  simp only [Bool.and_eq_true, beq_iff_eq] at ho
  obtain ⟨hmro, hdict⟩ := ho
  have hm : Looks (model prog w) s.heap (mroOf (.ref C)) [.ref C, .type "list", .type "object"] := hmro ▸ (looks_clsIn X hc).andThen .now
  have hcd : Looks (model prog w) s.heap (classData C) cd := looks_clsIn X hc
  have sub : Looks (model prog w) s.heap (PySem.isInstance (.ref x) (.type "object")) true := I.type.andThen (looks_mroIn X (by unfold mroIn; rw [hc, Option.bind_some, hmro]; rfl))
  have hf : Looks (model prog w) s.heap (typeLookup (.ref C) name) none := looks_findIn X ht
  have hty : Looks (model prog w) s.heap (typeOf (.ref x)) (.ref C) := I.type
  refine codeAny_call_builtin SF.slot.plain SF.entry (@check_slot (model prog w) _ _ s "object.__setattr__" "object" "__setattr__" (.ref x) [.str name tk, v] [] _ SF.kind SF.split sub (SF.args (.ref x) (.str name tk) v) ?_)
  rw [osa_eq, refuse_eq]
  obtain ⟨hx, hcl, hn, hdd⟩ := I
  obtain ⟨oc, odi, oda, osl⟩ := ox
  dsimp only at hcl hd hdd
  subst hcl hd
  obtain ⟨e1, e2⟩ := Prod.mk.inj e
  obtain ⟨U1, U2⟩ := news_upd (f := Obj.putName name (PyData.keyHash w.params name) (.str name s.toks) v) F N h1 h2 (o' := dictOf es' n') (by rw [putName_dict, e1, e2]) rfl
  have D' := (U2 (dx, dictOf es' n') (by simp)).1
  refine wpAny_bind (wpAny_bind (hty.here (wpAny_bind (hm.here ?_))))
  rw [refuseLoop_ref, refuse_lo]
  refine wpAny_pure (wpAny_bind (hty.here (wpAny_bind (hf.here ?_))))
  obtain ⟨hh, g, dr, t, os⟩ := s
  dsimp only at *
  unfold storeInOwnDict
  repeat lk
  rw [hdict]
  repeat lk
  have c : aRefKeyMayBeTheName name es.toArray = false := by
    rw [aRefKeyMayBeTheName_at, ← Array.any_toList, ← Array.any_toList, hl, Bool.and_false]
  rw [c]
  refine wpAny_updatePart hdd ?_
  refine wpAny_bind (wpAny_lookBehind D' (pastItsLine_dict (by rw [List.size_toArray, sizeLine_eq]; omega)) ?_)
  exact wpAny_pure (h _ U1 U2)
theorem set_acc {E : PySem.Value → Shared → Prop} {ox : PySem.Obj} {dx : Addr} {name : PySem.Str} {v : PySem.Value} {news' : List (Addr × PySem.Obj)} {es es' : List DictEntry} {n n' : Nat} {Q : Unit → Shared → Prop} (F : Fr h₀ L s.heap m) (X₀ : K.In h₀) (N : News h₀ L s.heap news)
    (I : InstAt s.heap x ox C (some (dictOf es n))) (hd : ox.dict = some dx) (hs : findIn K (.ref C) "__setattr__" = some (some (.builtin "object.__setattr__"))) (hp : overList K C = true) (ht : findIn K (.ref C) name = some none)
    (hl : es.any (·.refKey) = false) (e : (putL name (PyData.keyHash w.params name) (.str name (s.toks + 1)) v es, putN name es n) = (es', n')) (U : Upd dx (dictOf es n) (dictOf es' n') news news') (hz : es'.length ≤ 1000)
    (h : ∀ h', Fr h₀ L h' m → News h₀ L h' news' → Q () { s with heap := h', toks := s.toks + 2 }) :
    wpAny (model prog w) A (setAttr (.ref x) name v) Q E s := by
  obtain ⟨pre, post, rfl, rfl, a, b⟩ := U.split
  exact set_plain (X₀.keeps F.keep) I hs (osa_acc (s := { s with toks := s.toks + 1 }) F N (X₀.keeps F.keep) I hd hp ht hl a b e hz fun h' F' N' => h h' F' N')
end
end
theorem kw_D3 : True := (by k_with_none; w_top off; exact trivial)
section
open PySem PySem.W PyProof.Rows PySem.Calls Builtin Builtin.ObjectAttr Builtin.Getset_descriptor
open Lean Elab Tactic Meta
noncomputable abbrev mwObj (i : String) (x : Addr) : PySem.Obj := { cls := .type "method-wrapper", data := .fields #[.builtin i, .ref x] }
theorem wd_slot : Slot "wrapper_descriptor" "__get__" "wrapper_descriptor.__get__" := .of (owner := "wrapper_descriptor") (n := "__get__") (by rw [typeLookup_type, builtinLookup_eq_fast]; kernel_rfl) (by decide +kernel) (by decide +kernel) (by decide +kernel)
  (by first | exact .inl (by decide +kernel) | exact .inr (by decide +kernel)) (by rw [isSubtype_type]; kernel_rfl)
theorem wd_entry : entryFor table "wrapper_descriptor.__get__" = some Builtin.«wrapper_descriptor.__get__» := entryFor_of_tree (by kernel_rfl)
theorem wd_args (a b c : PySem.Value) : argsOk "wrapper_descriptor.__get__" ⟨[a, b, c], []⟩ := by unfold argsOk; kernel_rfl
theorem li_type : typeOf (.builtin "list.__init__") = pure (.type "wrapper_descriptor") := by
  show builtinType "list.__init__" = _
  rw [builtinType_eq_fast]; kernel_rfl
section
variable {prog : PySem.Program} {w : World} {A : Around} {E : PySem.Value → Shared → Prop} {h : Heap} {g : Array GenState} {d : Drawn} {t : Nat} {os : OsState} {Q : PySem.Value → Shared → Prop}
theorem wd_get {x C : Addr} (hL : Looks (model prog w) h (PySem.isInstance (.ref x) (.type "list")) true) (hq : Q (.ref h.objs.size) ⟨h.push (mwObj "list.__init__" x), g, d, t, os⟩) :
    wpAny (model prog w) A (call (.builtin "wrapper_descriptor.__get__") [.builtin "list.__init__", .ref x, .ref C]) Q E ⟨h, g, d, t, os⟩ := by
  refine wpAny_call_entry wd_slot li_type wd_entry ?_ (wd_args _ _ _)
  unfold Builtin.«wrapper_descriptor.__get__»
  iterate 12 lk
  refine wpAny_bind ?_
  lk
  lk
  refine wpAny_of_eq (a := (PySem.Str.ofString "__init__", PySem.Value.type "list")) (by kernel_rfl) ?_
  repeat lk
  exact ⟨_, rfl, hq⟩
theorem li_own {P : PySem.Params} : ownIn (hd0.heap_1 P) "__init__" (.type "list") = some (some (.builtin "list.__init__")) := by kernel_rfl
theorem ls_ga {so x : Addr} {tk : Tok} {Q : Fin → Shared → Prop}
    (hso : h.get? so = some (ks_superObj 99 x 99)) (hno : Looks (model prog w) h (opaqueClassAbove (.ref 99)) none) (hC : Looks (model prog w) h (mroOf (.ref 99)) [.ref 99, .type "list", .type "object"]) (X : (hd0.heap_1 w.params).In h)
    (hL : Looks (model prog w) h (PySem.isInstance (.ref x) (.type "list")) true) (hx : x ≠ 99)
    (hq : Q (.done (.ret (.ref h.objs.size))) ⟨h.push (mwObj "list.__init__" x), g, d, t, os⟩) :
    wpAny (model prog w) A (Builtin.«super.__getattribute__» ⟨[.ref so, .str "__init__" tk], []⟩) Q E ⟨h, g, d, t, os⟩ := by
  have hlk : Looks (model prog w) h (typeLookup (.type "wrapper_descriptor") "__get__") (some (.builtin "wrapper_descriptor.__get__")) := Looks.of_pure wd_slot.lookup
  have hty : Looks (model prog w) h (typeOf (.builtin "list.__init__")) (.type "wrapper_descriptor") := Looks.of_pure li_type
  have hown : Looks (model prog w) h (classOwn (.type "list") "__init__") (some (.builtin "list.__init__")) := looks_ownIn X li_own
  have hne : (Value.ref x == Value.ref 99) = false := by simp [hx]
  unfold Builtin.«super.__getattribute__»
  repeat (first
    | ((with_reducible show wpAny _ _ (notOfAnOpaqueClass _ _ _) _ _ _); refine ks_wpAny_notOpaque hno ?_)
    | ((with_reducible show wpAny _ _ (mroOf _) _ _ _); refine Looks.at hC ?_)
    | ((with_reducible show wpAny _ _ (classOwn _ _) _ _ _); refine Looks.at hown ?_)
    | ((with_reducible show wpAny _ _ (call _ _) _ _ _); (show wpAny _ _ (call (.builtin "wrapper_descriptor.__get__") [.builtin "list.__init__", if (Value.ref x == Value.ref 99) = true then Value.none else Value.ref x, Value.ref 99]) _ _ _); rw [hne, if_neg Bool.false_ne_true]; refine wd_get hL ?_)
    | (simp only [hne, Bool.false_eq_true, if_false])
    | lk)
  all_goals exact hq
theorem ls_getM {so x : Addr} {pl : Sem Bool} {Q : PySem.Value × List PySem.Value → Shared → Prop}
    (hso : h.get? so = some (ks_superObj 99 x 99)) (hno : Looks (model prog w) h (opaqueClassAbove (.ref 99)) none) (hC : Looks (model prog w) h (mroOf (.ref 99)) [.ref 99, .type "list", .type "object"]) (X : (hd0.heap_1 w.params).In h)
    (hL : Looks (model prog w) h (PySem.isInstance (.ref x) (.type "list")) true) (hx : x ≠ 99)
    (hq : Q (.ref h.objs.size, []) ⟨h.push (mwObj "list.__init__" x), g, d, t + 1, os⟩) :
    wpAny (model prog w) A (getMethod (.ref so) "__init__" pl) Q E ⟨h, g, d, t, os⟩ := by
  have hlk := PySem.F.ks_slot_super_ga.lookup
  have hcan := PySem.F.ks_canon_super_ga
  have hT : ∀ t', (⟨h, g, d, t', os⟩ : Shared).TypeIs (.ref so) "super" := fun _ => ⟨_, hso, rfl⟩
  have hty : Looks (model prog w) h (typeOf (.ref so)) (.type "super") := (Looks.ld hso).andThen .now
  unfold getMethod
  refine wpAny_bind (wpAny_specialOf (hT _) hlk ?_)
  show wpAny _ _ (if (Manifest.canonical "super.__getattribute__" != "object.__getattribute__") = true then _ else _) _ _ _
  rw [if_pos hcan]
  unfold getAttr getAttrBy
  refine wpAny_bind (wpAny_bind (wpAny_mkText (wpAny_holding (wpAny_bind (hty.here (wpAny_bind (wpAny_of_eq hlk ?_)))))))
  show wpAny _ _ (getAttrByItsOwn (.ref so) (.str "__init__" t) (.type "super") (.builtin "super.__getattribute__") true false) _ _ _
  unfold getAttrByItsOwn hookBefore callGetattribute boundAndCalled
  refine wpAny_bind (wpAny_of_eq (show (if onTheHeap (.type "super") then typeLookup (.type "super") "__getattr__" else pure none) = pure none from rfl) ?_)
  refine wpAny_bind (wpAny_attempt (wpAny_holding ?_))
  show wpAny _ _ (bindSpecial (.builtin "super.__getattribute__") (.ref so) >>= _) _ _ _
  refine wpAny_bind (wpAny_of_eq (PySem.F.ks_slot_super_ga.bind _) ?_)
  refine wpAny_mono (Q := fun v s' => v = .ref h.objs.size ∧ s' = ⟨h.push (mwObj "list.__init__" x), g, d, t + 1, os⟩) (E := fun _ _ => False)
    (wpAny_call_entry PySem.F.ks_slot_super_ga (hT _) PySem.F.ks_entry_super_ga (ls_ga hso hno hC X hL hx ⟨_, rfl, rfl, rfl⟩) (PySem.F.ks_gaArgs_super _ _)) (fun v s' hv => ?_) fun _ _ z => z.elim
  obtain ⟨rfl, rfl⟩ := hv
  exact wpAny_pure (wpAny_pure hq)
end
section
variable {prog : PySem.Program} {w : World} {A : Around} {E : PySem.Value → Shared → Prop} {s : Shared} {h₀ : Heap} {L : Addr} {m mg mb : PySem.Str → Option PySem.Value} {news : List (Addr × PySem.Obj)} {x so : Addr} {ox : PySem.Obj} {odx : Option PySem.Obj}
theorem looks_mro99 {h : Heap} (X : (hd0.heap_1 w.params).In h) : Looks (model prog w) h (mroOf (.ref 99)) [.ref 99, .type "list", .type "object"] := by
  obtain ⟨cd, hc, ho⟩ := any_some (over99 (P := w.params))
  simp only [Bool.and_eq_true, beq_iff_eq] at ho
  exact ho.1 ▸ (looks_clsIn X hc).andThen .now
theorem looks_isL {h : Heap} (X : (hd0.heap_1 w.params).In h) (I : InstAt h x ox 99 odx) : Looks (model prog w) h (PySem.isInstance (.ref x) (.type "list")) true := by
  obtain ⟨cd, hc, ho⟩ := any_some (over99 (P := w.params))
  simp only [Bool.and_eq_true, beq_iff_eq] at ho
  exact I.type.andThen (looks_mroIn X (by unfold mroIn; rw [hc, Option.bind_some, ho.1]; rfl))
theorem ne99 {h : Heap} (X : (hd0.heap_1 w.params).In h) (I : InstAt h x ox 99 odx) : x ≠ 99 := by
  obtain ⟨cd, hc, ho⟩ := any_some (over99 (P := w.params))
  exact ks_ne X I hc
theorem noOpaque {P : PySem.Params} : nsIn (hd0.heap_1 P) cStatics "thirdparty.any" = some none := by kernel_rfl
theorem ls_super {pl : Sem Bool} {Q : PySem.Value × List PySem.Value → Shared → Prop} (F : Fr h₀ L s.heap m) (X₀ : (hd0.heap_1 w.params).In h₀) (N : News h₀ L s.heap news) (hso : (so, ks_superObj 99 x 99) ∈ news) (I : InstAt s.heap x ox 99 odx)
    (h : ∀ q h', Fr h₀ L h' m → News h₀ L h' ((q, mwObj "list.__init__" x) :: news) → (∀ p ∈ news, p.1 < q) → Q (.ref q, []) { s with heap := h', toks := s.toks + 1 }) : wpAny (model prog w) A (getMethod (.ref so) "__init__" pl) Q E s := by
  have X := X₀.keeps F.keep
  have F' := F.push (mwObj "list.__init__" x)
  have N' := News.push F N (mwObj "list.__init__" x)
  have l' : ∀ p ∈ news, p.1 < s.heap.objs.size := fun p hp => Heap.lt_size (N p hp).1
  obtain ⟨hh, g, d, t, os⟩ := s
  exact ls_getM (N _ hso).1 (looks_opaque X noOpaque) (looks_mro99 X) X (looks_isL X I) (ne99 X I) (h _ _ F' N' l')
theorem mw_callWith {pos : Pos} {q : Addr} {i : String} {env : Env} {Q : PySem.Value → Shared → Prop} (N : News h₀ L s.heap news) (hq : (q, mwObj i x) ∈ news) (h : wpAny (model prog w) A (call (.ref q) []) Q E s) :
    wpAny (model prog w) A (callWith pos (.ref q) [] (backTo pos (starEach [] env)) []) Q E s :=
  callWith_of (P := fun h => h.get? q = some (mwObj i x)) rfl (fun h e => ⟨.machine, .inr (.inl rfl), (Looks.ld (part := none) e).andThen .now⟩) (evalArgs_nil3 ⟨(N _ hq).1, h⟩)
theorem li_entry : entryFor table "list.__init__" = some Builtin.«list.__init__» := entryFor_of_tree (by kernel_rfl)
theorem li_kind : builtinKind "list.__init__" = some .slot := by decide +kernel
theorem li_args (x : Addr) : argsOk "list.__init__" ⟨[.ref x], []⟩ := by unfold argsOk; kernel_rfl
theorem mw_call {q dx : Addr} {n : Nat} {Q : PySem.Value → Shared → Prop} {pre post : List (Addr × PySem.Obj)} (F : Fr h₀ L s.heap m) (N : News h₀ L s.heap (pre ++ (x, accObj 99 dx [] n) :: post)) (hq : (q, mwObj "list.__init__" x) ∈ pre ++ (x, accObj 99 dx [] n) :: post)
    (h1 : ∀ p ∈ pre, p.1 ≠ x) (h2 : ∀ p ∈ post, p.1 ≠ x)
    (h : ∀ h', Fr h₀ L h' m → News h₀ L h' (pre ++ (x, accObj 99 dx [] n) :: post) → Q .none { s with heap := h' }) :
    wpAny (model prog w) A (call (.ref q) []) Q E s := by
  have ho := (N _ hq).1
  obtain ⟨U1, U2⟩ := news_upd (f := Obj.mapSeq fun _ => #[]) F N h1 h2 (o' := accObj 99 dx [] n) rfl rfl
  have hx := (N _ (List.mem_append.mpr (.inr (.head _)))).1
  have hx' := (U2 _ (List.mem_append.mpr (.inr (.head _)))).1
  refine wpAny_call (codeAny_of_tree ?_)
  show wpAny _ A.in1 (callAny (.ref q) _) _ _ _
  have ha := li_args x
  obtain ⟨hh, g, dr, t, os⟩ := s
  unfold callAny
  refine wpAny_bind (wpAny_load ho ?_)
  show wpAny _ _ (checkBoundCall "list.__init__" ⟨[.ref x], []⟩ >>= fun _ => _) _ _ _
  have run : ∀ A', wpAny (model prog w) A' (Builtin.«list.__init__» ⟨[.ref x], []⟩) (fun fin s' => fin = .done (.ret .none) ∧ s' = ⟨hh.update x (Obj.mapSeq fun _ => #[]), g, dr, t, os⟩) (fun _ _ => False) ⟨hh, g, dr, t, os⟩ := by
    intro A'
    unfold Builtin.«list.__init__» PySem.Builtin.List.listUpdate updateSeq
    repeat (first | simp only [Bool.false_eq_true, if_false, Bool.not_true, List.isEmpty_nil, List.length_nil] | lk)
    show wpAny _ _ (update x (Obj.mapSeq fun _ => #[])) _ _ _
    refine wpAny_update' hx (wpAny_lookBehind hx' rfl ?_)
    repeat (first | simp only [Bool.false_eq_true, if_false, Bool.not_true, List.isEmpty_nil, List.length_nil] | lk)
    all_goals first | exact ⟨rfl, rfl⟩ | exact ⟨trivial, rfl⟩ | exact trivial | simp
  have fin : wpAny (model prog w) A.in1 (again (.builtin "list.__init__" ⟨[.ref x], []⟩)) (fun fin s' => match fin with | .done f => (match (Except.ok f : Result) with | .ok (.ret v) => Q v s' | .ok _ => False | .error e => E e s') | .again c' => c'.quiet = true ∧ codeAny (model prog w) A c' (fun r s' => match r with | .ok (.ret v) => Q v s' | .ok _ => False | .error e => E e s') s') (fun e s' => E e s') ⟨hh, g, dr, t, os⟩ := by
    refine wpAny_pure ⟨Code.quiet_builtin _ (by decide +kernel), codeAny_builtin li_entry ?_⟩
    refine wpAny_mono (run _) (fun fin s' z => ?_) fun _ _ z => z.elim
    obtain ⟨rfl, rfl⟩ := z
    exact h _ U1 U2
  refine wpAny_bind ?_
  unfold checkBoundCall
  cases hsig : Manifest.signature? "list.__init__" with
  | none => exact wpAny_pure fin
  | some sig =>
    simp only [argsOk, hsig] at ha
    have h2 : Bind.checkArgs "list.__init__" sig ⟨[.ref x], []⟩ = pure () := ha
    simp only [li_kind]
    show wpAny _ _ (Bind.checkArgs "list.__init__" sig ⟨[.ref x], []⟩) _ _ _
    rw [h2]
    exact wpAny_pure fin
end
end
theorem kw_D4 : True := (by k_with_none; w_top off; exact trivial)
section
open PySem PySem.W PyProof.Rows
open Lean Elab Tactic Meta
theorem filld4 : PySem.Challenge.rw_sr0071_01 = PySem.Challenge.rw_sr0071_01 ∧ hd0.heap_1 = hd0.heap_1 := by k_fill; exact ⟨rfl, rfl⟩
section
variable {w : World} {mean : ExcName → Option PySem.Value} {mg mb : PySem.Str → Option PySem.Value} {dp un : Nat} {gd : Option (List Code)} {cn : PySem.Str} {cs : Scope} {a : Addr} {ccd : PySem.Value} {cl : List (PySem.Str × Addr)} {outer : List Env} {A₀ : Around} {base h₀ : Heap} {L : Addr} {m : PySem.Str → Option PySem.Value} {news : List (Addr × PySem.Obj)} {s : Shared}
    {Q E : PySem.Value → Shared → Prop}
theorem inst_acc {h : Heap} {x C dx : Addr} {od : PySem.Obj} {vs : Array PySem.Value} {n : Nat} {sl : Array (Option PySem.Value)} (N : News h₀ L h news) (h1 : (x, (⟨.ref C, some dx, .seq vs n, sl⟩ : PySem.Obj)) ∈ news) (h2 : (dx, od) ∈ news) :
    InstAt h x ⟨.ref C, some dx, .seq vs n, sl⟩ C (some od) := ⟨(N _ h1).1, rfl, rfl, (N _ h2).1⟩
local macro_rules | `(tactic| k_inst) => `(tactic| (refine' inst_acc (by k_asm) (by k_mem) (by k_mem)))
theorem mw_callU {prog : PySem.Program} {A : Around} {q x dx : Addr} {n : Nat} {news' : List (Addr × PySem.Obj)} (F : Fr h₀ L s.heap m) (N : News h₀ L s.heap news) (hq : (q, mwObj "list.__init__" x) ∈ news) (U : Upd x (accObj 99 dx [] n) (accObj 99 dx [] n) news news')
    (h : ∀ h', Fr h₀ L h' m → News h₀ L h' news' → Q .none { s with heap := h' }) :
    wpAny (model prog w) A (call (.ref q) []) Q E s := by
  obtain ⟨pre, post, rfl, rfl, a, b⟩ := U.split
  exact mw_call F N hq a b h
local macro_rules | `(tactic| walk_at "call ref") => `(tactic| (k_here; k_dflt (refine' mw_callU (by k_asm) (by k_asm) (by k_mem) (by k_upd) ?_; k_whole; intro h' F' N'; (try k_sweep))))
local macro_rules | `(tactic| walk_at "callWith ref") => `(tactic| (k_here; k_dflt (refine' mw_callWith (by k_asm) (by k_mem) ?_; k_whole)))
local macro_rules | `(tactic| walk_at "getMethod ref") => `(tactic| (k_here; k_dflt (refine' ls_super (by k_asm) (by k_asm) (by k_asm) (by k_mem) (by k_inst) ?_; k_whole; intro q' h' F' N' l1; (try k_lt l1))))
local macro_rules | `(tactic| walk_at "setAttr ref") => `(tactic| (k_here; k_dflt (refine' set_acc (by k_asm) (by k_asm) (by k_asm) (by k_inst) (by exact rfl) (by k_is) (by exact over99) (by k_is) (by rfl) (by k_put) (by k_upd) (by exact Nat.le_of_ble_eq_true rfl) ?_; k_whole; intro h' F' N'; (try k_sweep))))
noncomputable abbrev accD (P : PySem.Params) (t1 t2 : Tok) : PySem.Obj := dictOf [⟨PyData.keyHash P "_initial_size", .str "_initial_size" t1, .int 0 t2⟩] 1
theorem acc_ret {P : PySem.Params} {x dx : Addr} {t1 t2 : Tok} {all : List (Addr × PySem.Obj)} {h' : Heap} {tk' : Nat} (hret : ∀ (x dx : Addr) (t1 t2 : Tok) h' tk', Fr h₀ L h' m → News h₀ L h' ((x, accObj 99 dx [] 0) :: (dx, accD P t1 t2) :: news) → (∀ p ∈ news, p.1 < dx) → @LT.lt Nat _ dx x → Q (.ref x) { s with heap := h', toks := tk' })
    (F : Fr h₀ L h' m) (N : News h₀ L h' all) (l1 : ∀ p ∈ news, p.1 < dx) (l2 : @LT.lt Nat _ dx x) (h1 : (x, accObj 99 dx [] 0) ∈ all) (h2 : (dx, accD P t1 t2) ∈ all) (h3 : ∀ p ∈ news, p ∈ all) : Q (.ref x) { s with heap := h', toks := tk' } :=
  hret x dx t1 t2 h' tk' F (fun p hp => by
    rcases List.mem_cons.mp hp with rfl | hp
    · exact N _ h1
    · rcases List.mem_cons.mp hp with rfl | hp
      · exact N _ h2
      · exact N _ (h3 p hp)) l1 l2
theorem acc_new
    (B : Below A₀ base outer h₀) (F : Fr h₀ L s.heap m) (X : (hd0.heap_1 w.params).In h₀) (N : News h₀ L s.heap news) (T : Top topProg LS mean mg mb h₀) (hk : cs.kind = .function)
    (hd : dp + 10 < recursionLimit) (hu : un + 100 < cLine)
    (hret : ∀ (x dx : Addr) (t1 t2 : Tok) h' tk', Fr h₀ L h' m → News h₀ L h' ((x, accObj 99 dx [] 0) :: (dx, accD w.params t1 t2) :: news) → (∀ p ∈ news, p.1 < dx) → @LT.lt Nat _ dx x → Q (.ref x) { s with heap := h', toks := tk' }) :
    wpAny (model PG w) (ktrTop dp un gd cn cs L a ccd cl outer) (call (.ref 99) []) Q E s := by
  k_dflt (refine' call_accL ?k1 ?k2 ?k3 ?k4 ?k5 ?k6 ?_; (case k1 => k_asm); (case k2 => k_asm); (case k3 => k_asm); (case k4 => exact mk99); (case k5 => k_is); (case k6 => k_is); intro x' d' h' F' N' l1 l2; have lx : ∀ p ∈ news, p.1 < x' := fun p hp => Nat.lt_trans (l1 p hp) l2; have ly := l1; have lz := l2)
  k_dflt (refine' ks_code_super ?k1 ?k2 ?k3 ?k4 ?k5 ?kA ?kF ?kK ?k6 ?k7 ?k8 ?k9 ?kB ?_ ?c1 ?c2 ?c3 ?c4; (case kA => exact rfl); (case kF => exact rfl); (case kK => assumption); (case k1 => k_asm); (case k2 => k_asm); (case k3 => k_asm); (case k4 => k_asm); (case k5 => k_asm); (case k6 => k_is); (case k7 => k_is); (case k8 => ktr_room); (case k9 => first | exact BindsTo.of_eq rfl | exact binds_K (by k_in) rfl (by k_is) rfl rfl rfl); (case kB => exact locs rfl); (case c1 => decide); (case c2 => exact rfl); (case c3 => exact rfl); (case c4 => exact rfl); intro g' L' h' FG' F' N' B' X' T' l1; (try k_lt l1); (try dsimp only); (try k_lift B'); (try k_fold))
  iterate 7 (first | (dsimp only; walk1) | walk1)
  refine ks_wpAt_Expr_any ?_
  refine ks_wpAt_MethodCall ?_
  k_dflt (refine ks_node (by k_asm) (by k_asm) (by k_asm) (by k_asm) (by k_is) (by rfl) (by rfl) (by k_inst) (by k_is) (by rfl) (by first | rfl | decide +kernel) (by k_is) (by k_is) (by k_is) (by k_is) (by decide) (by rfl) (by rfl) (by rfl) (by rfl) (by decide +kernel) (by first | boot_by_name | rfl | kernel_rfl) ?_; intro so' h' F' N' l1; (try k_lt l1))
  repeat (first | (dsimp only; walk1) | walk1)
  refine' acc_ret (Q := Q) hret (by assumption) (by assumption) ly lz (by k_mem) (by k_mem) ?_
  intro p hp; repeat (first | exact hp | apply List.mem_cons_of_mem)
end
end
theorem kw_D5 : True := (by k_with_none; w_top off; exact trivial)
section
open PySem PySem.W PyProof.Rows PySem.Calls Builtin Builtin.ObjectAttr Builtin.Getset_descriptor
open Lean Elab Tactic Meta
theorem la_type : typeOf (.builtin "list.append") = pure (.type "method_descriptor") := by
  show builtinType "list.append" = _
  rw [builtinType_eq_fast]; kernel_rfl
theorem la_kind : builtinKind "list.append" = some .method := by decide +kernel
theorem la_split : splitId "list.append" = some ("list", "append") := by decide +kernel
theorem la_args (a b : PySem.Value) : argsOk "list.append" ⟨[a, b], []⟩ := by unfold argsOk; kernel_rfl
theorem fd_ga {P : PySem.Params} : findIn (hd0.heap_1 P) (.ref 99) "__getattribute__" = some (some (.builtin "list.__getattribute__")) := by kernel_rfl
theorem fd_gattr {P : PySem.Params} : findIn (hd0.heap_1 P) (.ref 99) "__getattr__" = some none := by kernel_rfl
theorem ga_canon : (Manifest.canonical "list.__getattribute__" != "object.__getattribute__") = false := by decide +kernel
theorem fd_append {P : PySem.Params} : findIn (hd0.heap_1 P) (.ref 99) "append" = some (some (.builtin "list.append")) := by kernel_rfl
theorem fd_getitem {P : PySem.Params} : findIn (hd0.heap_1 P) (.ref 99) "__getitem__" = some (some (.builtin "list.__getitem__")) := by kernel_rfl
theorem fd_setitem {P : PySem.Params} : findIn (hd0.heap_1 P) (.ref 99) "__setitem__" = some (some (.builtin "list.__setitem__")) := by kernel_rfl
theorem fd_iter {P : PySem.Params} : findIn (hd0.heap_1 P) (.ref 99) "__iter__" = some (some (.builtin "list.__iter__")) := by kernel_rfl
theorem fd_str {P : PySem.Params} : findIn (hd0.heap_1 P) (.ref 99) "__str__" = some (some (.ref 74)) := by kernel_rfl
section
variable {prog : PySem.Program} {w : World} {A : Around} {E : PySem.Value → Shared → Prop} {s : Shared} {h₀ : Heap} {L : Addr} {m mg mb : PySem.Str → Option PySem.Value} {news : List (Addr × PySem.Obj)} {x so : Addr} {ox : PySem.Obj} {odx : Option PySem.Obj} {K : Frag} {C : Addr}
theorem method_acc {name : PySem.Str} {f : PySem.Value} {T : String} {pl : Sem Bool} {Q : PySem.Value × List PySem.Value → Shared → Prop} (F : Fr h₀ L s.heap m) (X₀ : (hd0.heap_1 w.params).In h₀) (I : InstAt s.heap x ox 99 odx)
    (hf : findIn (hd0.heap_1 w.params) (.ref 99) name = some (some f)) (ht : Looks (model prog w) s.heap (typeOf f) (.type T)) (hT : T = "function" ∨ T = "method_descriptor") (hs : shadowIn odx name = some false) (h : Q (f, [.ref x]) s) :
    wpAny (model prog w) A (getMethod (.ref x) name pl) Q E s := by
  have X := X₀.keeps F.keep
  have hcan := ga_canon
  unfold getMethod specialOf
  refine wpAny_bind (wpAny_bind (I.type.here ((looks_findIn X fd_ga).here ?_)))
  dsimp only
  rw [hcan, if_neg (by decide)]
  refine wpAny_bind (wpAny_bind (I.type.here ((looks_findIn X fd_gattr).here ?_)))
  refine wpAny_bind (wpAny_bind (I.type.here ((looks_findIn X hf).here (wpAny_bind (ht.here ?_)))))
  rw [if_neg (by rcases hT with rfl | rfl <;> decide +kernel)]
  refine wpAny_bind (wpAny_loadPart I.at_ ?_)
  have hd := I.dict
  cases e : ox.dict with
  | none => exact wpAny_bind (wpAny_rule (wpAny_pure h))
  | some dx =>
    cases odx with
    | none => rw [e] at hd; exact hd.elim
    | some o =>
      rw [e] at hd
      obtain ⟨r, a, b⟩ := Option.map_eq_some_iff.mp hs
      refine wpAny_bind (wpAny_bind (wpAny_loadPart hd ?_))
      rw [nsLook_of a]
      refine wpAny_pure ?_
      rw [b]
      exact wpAny_bind (wpAny_rule (wpAny_pure h))
theorem method_accB {name : PySem.Str} {id : String} {pl : Sem Bool} {Q : PySem.Value × List PySem.Value → Shared → Prop} (F : Fr h₀ L s.heap m) (X₀ : (hd0.heap_1 w.params).In h₀) (I : InstAt s.heap x ox 99 odx)
    (hf : findIn (hd0.heap_1 w.params) (.ref 99) name = some (some (.builtin id))) (ht : typeOf (.builtin id) = pure (.type "method_descriptor")) (hs : shadowIn odx name = some false) (h : Q (.builtin id, [.ref x]) s) :
    wpAny (model prog w) A (getMethod (.ref x) name pl) Q E s := method_acc F X₀ I hf (Looks.of_pure ht) (.inr rfl) hs h
theorem method_accF {name : PySem.Str} {f : Addr} {pl : Sem Bool} {Q : PySem.Value × List PySem.Value → Shared → Prop} (F : Fr h₀ L s.heap m) (X₀ : (hd0.heap_1 w.params).In h₀) (I : InstAt s.heap x ox 99 odx)
    (hf : findIn (hd0.heap_1 w.params) (.ref 99) name = some (some (.ref f))) (ht : isFn (hd0.heap_1 w.params) (.ref f) = true) (hs : shadowIn odx name = some false) (h : Q (.ref f, [.ref x]) s) :
    wpAny (model prog w) A (getMethod (.ref x) name pl) Q E s := method_acc F X₀ I hf (looks_typeIn (X₀.keeps F.keep) (beq_iff_eq.mp ht)) (.inl rfl) hs h
theorem check_meth {M : Model} {i owner n : String} {self : PySem.Value} {rest : List PySem.Value} {Q : Unit → Shared → Prop}
    (hk : builtinKind i = some .method) (hs : splitId i = some (owner, n)) (hi : Looks M s.heap (PySem.isInstance self (.type owner)) true) (ha : argsOk i ⟨self :: rest, []⟩) (q : Q () s) :
    wpAny M A (checkBuiltinCall i ⟨self :: rest, []⟩) Q E s := by
  simp only [checkBuiltinCall, hk, hs]
  refine wpAny_bind (hi.here ?_)
  simp only [Bool.not_true, Bool.false_eq_true, if_false]
  cases hsig : Manifest.signature? i with
  | none => exact wpAny_pure q
  | some sig =>
    simp only [argsOk, hsig] at ha
    have h2 : Bind.checkArgs i sig ⟨self :: rest, []⟩ = pure () := ha
    show wpAny M A (Bind.checkArgs i sig ⟨self :: rest, []⟩) Q E s
    rw [h2]; exact wpAny_pure q
theorem acc_append {dx : Addr} {n : Nat} {v : PySem.Value} {vs : List PySem.Value} {od : PySem.Obj} {Q : PySem.Value → Shared → Prop} {news' : List (Addr × PySem.Obj)} (F : Fr h₀ L s.heap m) (X₀ : (hd0.heap_1 w.params).In h₀) (N : News h₀ L s.heap news) (hd : (dx, od) ∈ news)
    (U : Upd x (accObj 99 dx vs n) (accObj 99 dx (vs ++ [v]) (n + 1)) news news') (hz : vs.length ≤ 1000)
    (h : ∀ h', Fr h₀ L h' m → News h₀ L h' news' → Q .none { s with heap := h' }) :
    wpAny (model prog w) A (call (.builtin "list.append") [.ref x, v]) Q E s := by
  obtain ⟨pre, post, rfl, rfl, h1, h2⟩ := U.split
  have X := X₀.keeps F.keep
  have e : Obj.mapSeq (·.push v) (accObj 99 dx vs n) = accObj 99 dx (vs ++ [v]) (n + 1) := by
    unfold Obj.mapSeq accObj
    simp
  obtain ⟨U1, U2⟩ := news_upd (f := Obj.mapSeq (·.push v)) F N h1 h2 (o' := accObj 99 dx (vs ++ [v]) (n + 1)) e rfl
  have hx := (N _ (List.mem_append.mpr (.inr (.head _)))).1
  have hx' := (U2 _ (List.mem_append.mpr (.inr (.head _)))).1
  have I : InstAt s.heap x (accObj 99 dx vs n) 99 (some od) := ⟨hx, rfl, rfl, (N _ hd).1⟩
  refine wpAny_call (codeAny_call_builtin (by decide +kernel) PySem.F.entry_list_append (@check_meth _ _ _ (model prog w) "list.append" "list" "append" (.ref x) [v] _ la_kind la_split (looks_isL X I) (la_args _ _) ?_))
  obtain ⟨hh, g, dr, t, os⟩ := s
  unfold Builtin.«list.append» PySem.Builtin.List.listUpdate updateSeq
  repeat (first | simp only [Bool.false_eq_true, if_false, Bool.not_true, List.isEmpty_nil, List.length_nil] | lk)
  show wpAny _ _ (update x (Obj.mapSeq (·.push v))) _ _ _
  refine wpAny_update' hx (wpAny_lookBehind hx' (pastItsLine_seq (by rw [List.size_toArray, List.length_append, sizeLine_eq, List.length_singleton]; lia)) ?_)
  exact wpAny_pure (h _ U1 U2)
end
end
theorem kw_D5b : True := (by k_with_none; w_top off; exact trivial)
section
open PySem PySem.W PyProof.Rows PySem.Calls Builtin Builtin.ObjectAttr Builtin.Getset_descriptor
open Lean Elab Tactic Meta
theorem looks_anyNo {M : Model} {h : Heap} {f : String → Sem Bool} : ∀ {l : List String}, (∀ n ∈ l, Looks M h (f n) false) → Looks M h (l.anyM f) false
  | [], _ => .now
  | a :: r, hh => (hh a (.head _)).andThen (looks_anyNo fun n hn => hh n (.tail _ hn))
theorem gi_args (a b : PySem.Value) : argsOk "list.__getitem__" ⟨[a, b], []⟩ := by unfold argsOk; kernel_rfl
theorem gi_split : splitId "list.__getitem__" = some ("list", "__getitem__") := by decide +kernel
theorem gi_kind : builtinKind "list.__getitem__" = some .method := by decide +kernel
theorem si_args (a b c : PySem.Value) : argsOk "list.__setitem__" ⟨[a, b, c], []⟩ := by unfold argsOk; kernel_rfl
theorem si_split : splitId "list.__setitem__" = some ("list", "__setitem__") := by decide +kernel
theorem si_kind : builtinKind "list.__setitem__" = some .slot := by decide +kernel
theorem noSeq : ∀ n ∈ seqItemTypes, ([Value.ref 99, .type "list", .type "object"] : List PySem.Value).contains (.type n) = false := by decide +kernel
section
variable {prog : PySem.Program} {w : World} {A : Around} {E : PySem.Value → Shared → Prop} {s : Shared} {h₀ : Heap} {L : Addr} {m mg mb : PySem.Str → Option PySem.Value} {news : List (Addr × PySem.Obj)} {x so : Addr} {ox : PySem.Obj} {odx : Option PySem.Obj}
theorem looks_seqKey {h : Heap} {k : PySem.Value} {name : PySem.Str} (X : (hd0.heap_1 w.params).In h) (I : InstAt h x ox 99 odx) : Looks (model prog w) h (sequenceKey (.ref x) k name) k := by
  obtain ⟨cd, hc, ho⟩ := any_some (over99 (P := w.params))
  simp only [Bool.and_eq_true, beq_iff_eq] at ho
  have hno : ∀ n ∈ seqItemTypes, Looks (model prog w) h (isSubtype (.ref 99) (.type n)) false := fun n hn => looks_mroIn X (by unfold mroIn; rw [hc, Option.bind_some, ho.1, noSeq n hn]; rfl)
  unfold sequenceKey
  refine I.type.andThen ?_
  refine (looks_anyNo hno).andThen ?_
  simp only [Bool.not_false, if_true]
  exact .now
theorem acc_special {name : PySem.Str} {id : String} {args : List PySem.Value} {Q : Option PySem.Value → Shared → Prop} (X : (hd0.heap_1 w.params).In s.heap) (I : InstAt s.heap x ox 99 odx) (hf : findIn (hd0.heap_1 w.params) (.ref 99) name = some (some (.builtin id)))
    (hb : bindSpecial (.builtin id) (.ref x) = pure (.builtin id, [.ref x])) (h : wpAny (model prog w) A (call (.builtin id) (.ref x :: args)) (fun v => Q (some v)) E s) : wpAny (model prog w) A (callSpecial? (.ref x) name args) Q E s :=
  wpAny_bind (wpAny_bind (I.type.here ((looks_findIn X hf).here (wpAny_holding (wpAny_bind (wpAny_of_eq hb (wpAny_bind (wpAny_mono h (fun _ _ z => wpAny_pure z) fun _ _ z => z))))))))
theorem acc_getSlice {sl dx : Addr} {vs : List PySem.Value} {n : Nat} {vl vu vk : PySem.Value} {lo hi st : Option Int} {Q : PySem.Value → Shared → Prop} (X : (hd0.heap_1 w.params).In s.heap) (I : InstAt s.heap x (accObj 99 dx vs n) 99 odx)
    (hs : s.heap.IsSliceOf sl vl vu vk) (pl : PySem.IsPart vl lo) (pu : PySem.IsPart vu hi) (ps : PySem.IsPart vk st) (h0 : st ≠ some 0) (hz : vs.length ≤ 1000)
    (h : Q (.ref s.heap.objs.size) { s with heap := s.heap.push { cls := .type "list", data := .seq (PySem.slicePick vs.toArray lo hi st) } }) :
    wpAny (model prog w) A (getItem (.ref x) (.ref sl)) Q E s := by
  obtain ⟨os, hos, hcs, hds⟩ := id hs
  have hTs : s.TypeIs (.ref sl) "slice" := ⟨os, hos, hcs⟩
  have ho := I.at_
  have hsz : vs.toArray.size ≤ sizeLine := by rw [List.size_toArray, sizeLine_eq]; lia
  unfold getItem
  refine wpAny_holding ?_
  refine wpAny_bind ((looks_seqKey X I).here ?_)
  refine wpAny_bind (acc_special X I fd_getitem (PySem.slot_list_getitem.bind _) ?_)
  refine wpAny_call (codeAny_call_builtin (by decide +kernel) PySem.entry_list_getitem (check_meth (M := model prog w) (s := s) (i := "list.__getitem__") (owner := "list") (n := "__getitem__") (self := .ref x) (rest := [.ref sl]) gi_kind gi_split (looks_isL X I) (gi_args _ _) ?_))
  show wpAny _ _ (PySem.Builtin.List.listSubscript? (.ref sl) >>= _) _ _ s
  refine wpAny_bind ?_
  unfold PySem.Builtin.List.listSubscript?
  refine wpAny_bind (wpAny_specialOf hTs PySem.slice_no_index ?_)
  simp only [Option.isNone_none, if_true]
  refine wpAny_pure ?_
  show wpAny _ _ (typeOf (.ref sl) >>= _) _ _ s
  refine wpAny_bind (wpAny_typeOf hTs ?_)
  rw [if_neg (by decide)]
  rw [PySem.listSliceParts_eq]
  have hstep : ¬ ((PySem.rawPart st == rawInt 0) = true) := by
    cases st with
    | none => exact Bool.false_ne_true
    | some c =>
      intro hh
      have : c = 0 := by simpa [PySem.rawPart, rawInt] using hh
      exact h0 (by rw [this])
  refine wpAny_bind (wpAny_bind (wpAny_field hos hds (x := vk) rfl (wpAny_bind (PySem.wpAny_listPart ps ?_))))
  rw [if_neg hstep]
  refine wpAny_bind (wpAny_field hos hds (x := vl) rfl (wpAny_bind (PySem.wpAny_listPart pl ?_)))
  refine wpAny_bind (wpAny_field hos hds (x := vu) rfl (wpAny_bind (PySem.wpAny_listPart pu (wpAny_pure ?_))))
  refine wpAny_bind (m := PySem.Builtin.List.listItems (.ref x)) ?_
  unfold PySem.Builtin.List.listItems
  refine wpAny_bind (wpAny_seqItems ho rfl (wpAny_pure ?_))
  refine wpAny_bind (wpAny_of_eq (PySem.sliceIndices_raw lo hi st vs.toArray.size h0) ?_)
  refine wpAny_bind (wpAny_newObj_type (wpAny_pure ?_) (Nat.le_trans (PySem.slicePick_size_le _ lo hi st) hsz))
  exact wpAny_pure h
theorem acc_sub {value slice : PySem.Expr} {i : PySem.Value} {ops : List PySem.Value} {Q : PySem.Value → Shared → Prop} (X : (hd0.heap_1 w.params).In s.heap) (I : InstAt s.heap x ox 99 odx) (h : wpAny (model prog w) A (getItem (.ref x) i) Q E s)
    (hs : subscripted slice false (.ref x) i = operate ops (getItem (.ref x) i)) (ht : ∀ r, letTemporaryGo value (.ref x) r = pure ()) :
    wpAny (model prog w) A (subscriptTail value slice (.ref x) i) Q E s := by
  unfold subscriptTail
  refine wpAny_bind ?_
  rw [getitemInPython_of_ne (fun e => by cases e)]
  refine wpAny_bind (wpAny_bind (I.type.here ((looks_findIn X fd_getitem).here ?_)))
  have fin : wpAny (model prog w) A (subscripted slice false (.ref x) i) (fun r s₃ => wpAny (model prog w) A (letTemporaryGo value (.ref x) r >>= fun _ => pure r) Q E s₃) E s := by
    rw [hs]
    exact wpAny_operating (wpAny_mono h (fun r s₃ h₃ => wpAny_bind (wpAny_of_eq (ht r) (wpAny_pure h₃))) fun _ _ x => x)
  first
    | exact wpAny_pure (wpAny_bind fin)
    | exact wpAny_bind (wpAny_pure (wpAny_bind fin))
    | exact wpAny_bind fin
theorem acc_slice {dx : Addr} {od : PySem.Obj} {value slice : PySem.Expr} {vs : List PySem.Value} {n : Nat} {vl vu vk : PySem.Value} {lo hi st : Option Int} {ops : List PySem.Value} {Q : PySem.Value → Shared → Prop}
    (F : Fr h₀ L s.heap m) (X₀ : (hd0.heap_1 w.params).In h₀) (N : News h₀ L s.heap news) (hx : (x, accObj 99 dx vs n) ∈ news) (hdx : (dx, od) ∈ news) (pl : PySem.IsPart vl lo) (pu : PySem.IsPart vu hi) (pk : PySem.IsPart vk st) (h0 : st ≠ some 0) (hz : vs.length ≤ 1000)
    (h : ∀ D h', Fr h₀ L h' m → News h₀ L h' ((D, { cls := .type "list", data := .seq (PySem.slicePick vs.toArray lo hi st) }) :: news) → (∀ p ∈ news, p.1 < D) → Q (.ref D) { s with heap := h' })
    (hs : subscripted slice false (.ref x) (.ref s.heap.objs.size) = operate ops (getItem (.ref x) (.ref s.heap.objs.size)))
    (ht : ∀ r, letTemporaryGo value (.ref x) r = pure ()) :
    wpAny (model prog w) A (subscriptTail value slice (.ref x) (.ref s.heap.objs.size)) Q E { s with heap := s.heap.push { cls := .type "slice", data := .fields #[vl, vu, vk] } } := by
  have X := X₀.keeps F.keep
  have up : ∀ b o, s.heap.get? b = some o → (s.heap.push { cls := .type "slice", data := .fields #[vl, vu, vk] }).get? b = some o := fun _ _ e => Heap.get?_push_of_some _ e
  have I : InstAt (s.heap.push { cls := .type "slice", data := .fields #[vl, vu, vk] }) x (accObj 99 dx vs n) 99 (some od) := ⟨up _ _ (N _ hx).1, rfl, rfl, up _ _ (N _ hdx).1⟩
  refine acc_sub (X.keeps up) I (acc_getSlice (X.keeps up) I (PySem.Heap.IsSliceOf.new ..) pl pu pk h0 hz ?_) hs ht
  have N1 := News.push (F.push { cls := .type "slice", data := .fields #[vl, vu, vk] }) (N.grown fun _ _ e => Heap.get?_push_of_some _ e) { cls := .type "list", data := .seq (PySem.slicePick vs.toArray lo hi st) }
  exact h _ _ ((F.push _).push _) N1 (fun p hp => Heap.lt_size (up _ _ (N p hp).1))
end
end
theorem kw_D5c : True := (by k_with_none; w_top off; exact trivial)
section
open PySem PySem.W PyProof.Rows PySem.Calls Builtin Builtin.ObjectAttr Builtin.Getset_descriptor
open Lean Elab Tactic Meta
theorem bounds_from (lo : Option Int) (n k : Nat) (hk : k ≤ n) (e : lo = none ∧ k = 0 ∨ lo = some (k : Int)) : PySem.sliceBounds lo none none n = ((k : Int), (n : Int), 1) := by
  rcases e with ⟨rfl, rfl⟩ | rfl
  · rfl
  · unfold PySem.sliceBounds
    simp only [Option.getD_none, show (1 : Int) > 0 by decide, if_true]
    rw [if_neg (by lia)]
    congr 1
    lia
section
variable {prog : PySem.Program} {w : World} {A : Around} {E : PySem.Value → Shared → Prop} {s : Shared} {h₀ : Heap} {L : Addr} {m mg mb : PySem.Str → Option PySem.Value} {news : List (Addr × PySem.Obj)} {x so : Addr} {ox : PySem.Obj} {odx : Option PySem.Obj}
theorem si_bind (x : Addr) : bindSpecial (.builtin "list.__setitem__") (.ref x) = pure (.builtin "list.__setitem__", [.ref x]) := by kernel_rfl
theorem si_entry : entryFor table "list.__setitem__" = some Builtin.«list.__setitem__» := entryFor_of_tree (by kernel_rfl)
theorem acc_setSlice {sl l dx : Addr} {vs ws : List PySem.Value} {n n' e k : Nat} {vl : PySem.Value} {od : PySem.Obj} {lo : Option Int} {Q : Unit → Shared → Prop} {news' : List (Addr × PySem.Obj)} (F : Fr h₀ L s.heap m) (X₀ : (hd0.heap_1 w.params).In h₀) (N : News h₀ L s.heap news) (hdx : (dx, od) ∈ news) (hl : (l, listOf ws.toArray e) ∈ news) (hne : l ≠ x)
    (hs : s.heap.IsSliceOf sl vl .none .none) (pl : PySem.IsPart vl lo) (hk : k ≤ vs.length) (hlo : lo = none ∧ k = 0 ∨ lo = some (k : Int)) (hn' : n' = if (vs.take k ++ ws).length = vs.length then n else n + 1)
    (U : Upd x (accObj 99 dx vs n) (accObj 99 dx (vs.take k ++ ws) n') news news') (hz : vs.length ≤ 1000) (hzw : ws.length ≤ 1000)
    (h : ∀ h', Fr h₀ L h' m → News h₀ L h' news' → Q () { s with heap := h' }) :
    wpAny (model prog w) A (setItem (.ref x) (.ref sl) (.ref l)) Q E s := by
  obtain ⟨os, hos, hcs, hds⟩ := id hs
  have hTs : s.TypeIs (.ref sl) "slice" := ⟨os, hos, hcs⟩
  obtain ⟨pre, post, rfl, rfl, h1, h2⟩ := U.split
  have X := X₀.keeps F.keep
  have hx := (N _ (List.mem_append.mpr (.inr (.head _)))).1
  have I : InstAt s.heap x (accObj 99 dx vs n) 99 (some od) := ⟨hx, rfl, rfl, (N _ hdx).1⟩
  have ho := I.at_
  have hlx := (N _ hl).1
  have hTl : s.TypeIs (.ref l) "list" := ⟨_, hlx, rfl⟩
  have eN : Obj.mapSeq (fun xs => xs.extract 0 k ++ ws.toArray ++ xs.extract vs.length xs.size) (accObj 99 dx vs n) = accObj 99 dx (vs.take k ++ ws) n' := by
    unfold Obj.mapSeq accObj
    have e1 : (vs.toArray.extract 0 k ++ ws.toArray ++ vs.toArray.extract vs.length vs.toArray.size) = (vs.take k ++ ws).toArray := by
      simp
    dsimp only
    rw [e1, hn']
    simp only [List.size_toArray]
    by_cases hc : (vs.take k ++ ws).length = vs.length
    · rw [if_pos hc, if_pos (by simpa using hc)]
    · rw [if_neg hc, if_neg (by simpa using hc)]
  obtain ⟨U1, U2⟩ := news_upd (f := Obj.mapSeq (fun xs => xs.extract 0 k ++ ws.toArray ++ xs.extract vs.length xs.size)) F N h1 h2 (o' := accObj 99 dx (vs.take k ++ ws) n') eN rfl
  have hx' := (U2 _ (List.mem_append.mpr (.inr (.head _)))).1
  unfold setItem
  refine wpAny_holding ?_
  refine wpAny_bind ((looks_seqKey X I).here ?_)
  refine wpAny_bind (acc_special X I fd_setitem (si_bind _) ?_)
  refine wpAny_call (codeAny_call_builtin (by decide +kernel) si_entry (@check_slot (model prog w) _ _ s "list.__setitem__" "list" "__setitem__" (.ref x) [.ref sl, .ref l] [] _ si_kind si_split (looks_isL X I) (si_args _ _ _) ?_))
  unfold Builtin.«list.__setitem__»
  refine wpAny_bind (wpAny_of_eq (a := (Value.ref x, [Value.ref sl, Value.ref l])) rfl ?_)
  dsimp only
  refine wpAny_bind ?_
  unfold PySem.Builtin.List.listSubscript?
  refine wpAny_bind (wpAny_specialOf hTs PySem.slice_no_index ?_)
  simp only [Option.isNone_none, if_true]
  refine wpAny_pure ?_
  show wpAny _ _ (typeOf (.ref sl) >>= _) _ _ s
  refine wpAny_bind (wpAny_typeOf hTs ?_)
  rw [if_neg (by decide)]
  rw [PySem.listSliceParts_eq]
  refine wpAny_bind (wpAny_bind (wpAny_field hos hds (x := .none) rfl (wpAny_bind (PySem.wpAny_listPart .none ?_))))
  rw [if_neg (show ¬ ((PySem.rawPart none == rawInt 0) = true) from Bool.false_ne_true)]
  refine wpAny_bind (wpAny_field hos hds (x := vl) rfl (wpAny_bind (PySem.wpAny_listPart pl ?_)))
  refine wpAny_bind (wpAny_field hos hds (x := .none) rfl (wpAny_bind (PySem.wpAny_listPart .none (wpAny_pure ?_))))
  rw [if_neg (by
    show ¬ ((x == l) = true)
    simpa using fun q => hne q.symm)]
  refine wpAny_bind (m := PySem.Builtin.List.listAllItems (.ref l) _) ?_
  unfold PySem.Builtin.List.listAllItems
  refine wpAny_bind (wpAny_typeOf hTl ?_)
  rw [if_pos (by decide)]
  unfold PySem.Builtin.List.listItems
  refine wpAny_bind (wpAny_seqItems hlx rfl (wpAny_pure ?_))
  refine wpAny_bind (m := PySem.Builtin.List.listItems (.ref x)) ?_
  unfold PySem.Builtin.List.listItems
  refine wpAny_bind (wpAny_seqItems ho rfl (wpAny_pure ?_))
  refine wpAny_bind (wpAny_of_eq (PySem.sliceIndices_raw lo none none vs.toArray.size (by simp)) ?_)
  rw [List.size_toArray, bounds_from lo vs.length k hk hlo]
  dsimp only
  rw [if_pos (by decide)]
  refine wpAny_bind (wpAny_rule ?_)
  rw [if_neg (by
    unfold PySem.Builtin.List.listTooLong
    simp only [List.size_toArray, decide_eq_true_eq, sizeLine_eq]
    lia)]
  have em : (max (k : Int) (vs.length : Int)).toNat = vs.length := by lia
  rw [em, Int.toNat_natCast]
  obtain ⟨hh, g, dr, t, os⟩ := s
  refine wpAny_bind (m := updateSeq x (fun xs => xs.extract 0 k ++ ws.toArray ++ xs.extract vs.length xs.size)) ?_
  unfold updateSeq
  refine wpAny_bind (wpAny_load ho ?_)
  show wpAny _ _ (update x (Obj.mapSeq _) >>= fun _ => lookBehind x) _ _ _
  refine wpAny_bind (wpAny_update' hx (wpAny_lookBehind hx' (pastItsLine_seq (by rw [List.size_toArray, List.length_append, List.length_take, sizeLine_eq]; lia)) ?_))
  refine wpAny_bind (PySem.wpAny_letGo ?_)
  exact wpAny_pure (wpAny_pure (h _ U1 U2))
end
end
theorem kw_D6 : True := (by k_with_none; w_top off; exact trivial)
section
open PySem PySem.W PyProof.Rows
open Lean Elab Tactic Meta
theorem filld6 : PySem.Challenge.rw_sr0071_01 = PySem.Challenge.rw_sr0071_01 ∧ hd0.heap_1 = hd0.heap_1 := by k_fill; exact ⟨rfl, rfl⟩
section
variable {w : World} {mean : ExcName → Option PySem.Value} {mg mb : PySem.Str → Option PySem.Value} {dp un : Nat} {gd : Option (List Code)} {cn : PySem.Str} {cs : Scope} {a : Addr} {ccd : PySem.Value} {cl : List (PySem.Str × Addr)} {outer : List Env} {A₀ : Around} {base h₀ : Heap} {L : Addr} {m : PySem.Str → Option PySem.Value} {news : List (Addr × PySem.Obj)} {s : Shared}
    {Q E : PySem.Value → Shared → Prop}
local macro_rules | `(tactic| k_inst) => `(tactic| (refine' inst_acc (by k_asm) (by k_mem) (by k_mem)))
local macro_rules | `(tactic| walk_at "getMethod ref") => `(tactic| (k_here; k_dflt (refine' method_accB (by k_asm) (by k_asm) (by k_inst) (by exact fd_append) (by exact la_type) (by rfl) ?_; k_whole)))
local macro_rules | `(tactic| walk_at "call builtin:list.append") => `(tactic| (k_here; (with_reducible show wpAny _ _ (call (Value.builtin _) [Value.ref _, _]) _ _ _); k_dflt (refine' acc_append ?zF ?zX ?zN ?zd ?zU ?zz ?_; (case zF => k_asm); (case zX => k_asm); (case zN => k_asm); (case zU => k_upd); (case zd => k_mem); (case zz => lia); k_whole; intro h' F' N'; (try k_sweep))))
local macro_rules | `(tactic| walk_at "newTuple") => `(tactic| (k_here; k_dflt (refine' kup_newTuple (by k_asm) (by k_asm) ?_ (by kmk_size)); intro D' h' F' N' l1; (try k_lt l1); (try k_sweep)))
local macro_rules | `(tactic| walk_at "subscriptTail Name Slice ref ref") => `(tactic| (k_here; k_dflt (refine' acc_slice (by k_asm) (by k_asm) (by k_asm) (by k_mem) (by k_mem) (by first | exact PySem.IsPart.none | exact PySem.IsPart.int _ _) (by first | exact PySem.IsPart.none | exact PySem.IsPart.int _ _) (by exact PySem.IsPart.none) (by simp) (by lia) ?_ (by with_unfolding_all rfl) (by intro _; with_unfolding_all rfl)); intro D' h' F' N' l1; (try k_lt l1); (try k_sweep)))
theorem set_slice' {prog : PySem.Program} {A : Around} {l x dx : Addr} {vs ws : List PySem.Value} {n e : Nat} {vl : PySem.Value} {od : PySem.Obj} {lo : Option Int} {k : Nat} {Q : Unit → Shared → Prop} {news' : Nat → List (Addr × PySem.Obj)} (F : Fr h₀ L s.heap m) (X₀ : (hd0.heap_1 w.params).In h₀) (N : News h₀ L s.heap news) (_hx : (x, accObj 99 dx vs n) ∈ news) (hdx : (dx, od) ∈ news) (hl : (l, listOf ws.toArray e) ∈ news) (hne : l ≠ x)
    (pl : PySem.IsPart vl lo) (hk : k ≤ vs.length) (hlo : lo = none ∧ k = 0 ∨ lo = some (k : Int))
    (U : ∀ n', Upd x (accObj 99 dx vs n) (accObj 99 dx (vs.take k ++ ws) n') news (news' n')) (hz : vs.length ≤ 1000) (hzw : ws.length ≤ 1000)
    (h : ∀ n' h', Fr h₀ L h' m → News h₀ L h' (news' n') → Q () { s with heap := h' }) :
    wpAny (model prog w) A (setItem (.ref x) (.ref s.heap.objs.size) (.ref l)) Q E { s with heap := s.heap.push { cls := .type "slice", data := .fields #[vl, .none, .none] } } :=
  acc_setSlice (s := { s with heap := s.heap.push { cls := .type "slice", data := .fields #[vl, .none, .none] } }) (F.push _) X₀ (N.grown fun _ _ e => Heap.get?_push_of_some _ e) hdx hl hne (PySem.Heap.IsSliceOf.new ..) pl hk hlo rfl (U _) hz hzw (fun h' F' N' => h _ h' F' N')
local macro_rules | `(tactic| walk_at "setAttr ref") => `(tactic| (k_here; k_dflt (refine' set_acc (by k_asm) (by k_asm) (by k_asm) (by k_inst) (by exact rfl) (by k_is) (by exact over99) (by k_is) (by rfl) (by k_put) (by k_upd) (by exact Nat.le_of_ble_eq_true rfl) ?_; k_whole; intro h' F' N'; (try k_sweep))))
local macro_rules | `(tactic| walk_at "setItem ref ref") => `(tactic| (k_here; k_dflt (refine' set_slice' ?wF ?wX ?wN ?wx ?wd ?wl ?wne ?wpl ?wk ?wlo ?wU ?wz ?wzw ?_; (case wF => k_asm); (case wX => k_asm); (case wN => k_asm); (case wx => k_mem); (case wd => k_mem); (case wl => k_mem); (case wne => k_ne); (case wpl => first | exact PySem.IsPart.none | exact PySem.IsPart.int _ _); (case wlo => first | exact .inr (by assumption) | exact .inl ⟨rfl, rfl⟩); (case wk => lia); (case wU => intro n'; k_upd); (case wz => lia); (case wzw => first | exact Nat.zero_le _ | lia)); intro n' h' F' N'; (try k_sweep)))
theorem push_ret {x dx D : Addr} {n : Nat} {vs : List PySem.Value} {tf tt : Tok} {e : Nat} {fws str : PySem.Str} {h' : Heap} {tk' : Nat} {all : List (Addr × PySem.Obj)}
    (hret : ∀ (D : Addr) (tf tt : Tok) (e : Nat) h' tk', Fr h₀ L h' m → News h₀ L h' ((x, accObj 99 dx (vs ++ [.ref D]) (n + 1)) :: (D, tupO [.str fws tf, .str str tt] e) :: news) → (∀ p ∈ news, p.1 < D) → @LT.lt Nat _ x D → Q .none { s with heap := h', toks := tk' })
    (F : Fr h₀ L h' m) (N : News h₀ L h' all) (M1 : (x, accObj 99 dx (vs ++ [.ref D]) (n + 1)) ∈ all) (M2 : (D, tupO [.str fws tf, .str str tt] e) ∈ all) (M3 : ∀ p ∈ news, p ∈ all) (l1 : ∀ p ∈ news, p.1 < D) (l2 : @LT.lt Nat _ x D) : Q .none { s with heap := h', toks := tk' } :=
  hret D tf tt e h' tk' F (fun p hp => by
    rcases List.mem_cons.mp hp with rfl | hp
    · exact N _ M1
    · rcases List.mem_cons.mp hp with rfl | hp
      · exact N _ M2
      · exact N _ (M3 p hp)) l1 l2
theorem push_spec {x dx : Addr} {n : Nat} {vs : List PySem.Value} {t1 t2 tf tt : Tok} {fws str : PySem.Str}
    (B : Below A₀ base outer h₀) (F : Fr h₀ L s.heap m) (X : (hd0.heap_1 w.params).In h₀) (N : News h₀ L s.heap ((x, accObj 99 dx vs n) :: news)) (T : Top topProg LS mean mg mb h₀) (hk : cs.kind = .function)
    (hdx : (dx, accD w.params t1 t2) ∈ news) (hx : ∀ p ∈ news, p.1 ≠ x) (hz : vs.length ≤ 100)
    (hd : dp + 10 < recursionLimit) (hu : un + 100 < cLine)
    (hret : ∀ (D : Addr) (tf tt : Tok) (e : Nat) h' tk', Fr h₀ L h' m → News h₀ L h' ((x, accObj 99 dx (vs ++ [.ref D]) (n + 1)) :: (D, tupO [.str fws tf, .str str tt] e) :: news) → (∀ p ∈ news, p.1 < D) → @LT.lt Nat _ x D → Q .none { s with heap := h', toks := tk' }) :
    wpAny (model PG w) (ktrTop dp un gd cn cs L a ccd cl outer) (call (.ref 45) [.ref x, .str fws tf, .str str tt]) Q E s := by
  refine wpAny_call ?_
  k_dflt cell_enter
  repeat (first | walk1 | (dsimp only; walk1))
  refine' push_ret (Q := Q) hret (by assumption) (by assumption) (by k_mem) (by k_mem) ?_ ?_ ?_
  · intro p hp; repeat (first | exact hp | apply List.mem_cons_of_mem)
  · exact fun p hp => allLt_out (And.right (by assumption)) p hp
  · exact ltN (And.left (by assumption))
theorem pop_ret {x dx D : Addr} {n' : Nat} {k : Nat} {vs : List PySem.Value} {i : Int} {h' : Heap} {tk' : Nat} {all : List (Addr × PySem.Obj)}
    (hret : ∀ (D : Addr) (e n' : Nat) h' tk', Fr h₀ L h' m → News h₀ L h' ((x, accObj 99 dx (vs.take k) n') :: (D, listOf (vs.drop k).toArray e) :: news) → (∀ p ∈ news, p.1 < D) → @LT.lt Nat _ x D → Q (.ref D) { s with heap := h', toks := tk' })
    (F : Fr h₀ L h' m) (N : News h₀ L h' all) (hi : (some i : Option Int) = some (k : Int)) (hk : k ≤ vs.length) (M1 : (x, accObj 99 dx (vs.take k ++ []) n') ∈ all) (M2 : (D, ({ cls := .type "list", data := .seq (PySem.slicePick vs.toArray (some i) none none) } : PySem.Obj)) ∈ all) (M3 : ∀ p ∈ news, p ∈ all) (l1 : ∀ p ∈ news, p.1 < D) (l2 : @LT.lt Nat _ x D) : Q (.ref D) { s with heap := h', toks := tk' } := by
  rw [hi, PySem.slicePick_from _ _ (by rw [List.size_toArray]; exact hk)] at M2
  rw [List.append_nil] at M1
  exact hret D 0 n' h' tk' F (fun p hp => by
    rcases List.mem_cons.mp hp with rfl | hp
    · exact N _ M1
    · rcases List.mem_cons.mp hp with rfl | hp
      · exact N _ M2
      · exact N _ (M3 p hp)) l1 l2
theorem reset_ret {x dx : Addr} {n' : Nat} {t1 t2 : Tok} {vs ws : List PySem.Value} {P : PySem.Params} {h' : Heap} {tk' : Nat}
    (hret : ∀ (n' : Nat) (t1 t2 : Tok) h' tk', Fr h₀ L h' m → News h₀ L h' ((x, accObj 99 dx ws n') :: (dx, accD P t1 t2) :: news) → Q .none { s with heap := h', toks := tk' })
    (F : Fr h₀ L h' m) (N : News h₀ L h' ((x, accObj 99 dx (vs.take 0 ++ ws) n') :: (dx, accD P t1 t2) :: news)) : Q .none { s with heap := h', toks := tk' } := hret n' t1 t2 h' tk' F N
theorem pop_spec {x dx : Addr} {n : Nat} {vs : List PySem.Value} {t1 t2 ti : Tok} {i : Int}
    (B : Below A₀ base outer h₀) (F : Fr h₀ L s.heap m) (X : (hd0.heap_1 w.params).In h₀) (N : News h₀ L s.heap ((x, accObj 99 dx vs n) :: news)) (T : Top topProg LS mean mg mb h₀) (hk : cs.kind = .function)
    (hdx : (dx, accD w.params t1 t2) ∈ news) (hx : ∀ p ∈ news, p.1 ≠ x) (hz : vs.length ≤ 100) (hi : 0 ≤ i ∧ i ≤ vs.length)
    (hd : dp + 10 < recursionLimit) (hu : un + 100 < cLine)
    (hret : ∀ (D : Addr) (e n' : Nat) h' tk', Fr h₀ L h' m → News h₀ L h' ((x, accObj 99 dx (vs.take i.toNat) n') :: (D, listOf (vs.drop i.toNat).toArray e) :: news) → (∀ p ∈ news, p.1 < D) → @LT.lt Nat _ x D → Q (.ref D) { s with heap := h', toks := tk' }) :
    wpAny (model PG w) (ktrTop dp un gd cn cs L a ccd cl outer) (call (.ref 53) [.ref x, .int i ti]) Q E s := by
  have hI : (some i : Option Int) = some ((i.toNat : Nat) : Int) := by rw [Int.toNat_of_nonneg hi.1]
  have hx9 := hx
  refine wpAny_call ?_
  k_dflt (refine' code_def ?k1 ?k2 ?k3 ?k4 ?k5 ?kA ?kF ?kK ?k6 ?k7 ?k8 ?k9 ?kB ?_ ?c2 ?c3 ?c4 ?c5; (case kA => exact rfl); (case kF => exact rfl); (case kK => assumption); (case k1 => k_asm); (case k2 => k_asm); (case k3 => k_asm); (case k4 => k_asm); (case k5 => k_asm); (case k6 => k_is); (case k7 => k_is); (case k8 => ktr_room); (case k9 => first | exact BindsTo.of_eq rfl | exact binds_K (by k_in) rfl (by k_is) rfl rfl rfl); (case c5 => decide); (case kB => exact locs rfl); (case c2 => exact rfl); (case c3 => exact rfl); (case c4 => exact rfl); k_whole; intro g' L' h' FG' F' N' B' X' T'; (try dsimp only); (try k_lift B'); (try k_fold))
  repeat (first | walk1 | (dsimp only; walk1))
  refine' pop_ret (Q := Q) hret (by assumption) (by assumption) hI (by lia) (by k_mem) (by k_mem) ?_ ?_ ?_
  · intro p hp; repeat (first | exact hp | apply List.mem_cons_of_mem)
  · exact fun p hp => allLt_out (And.right (by assumption)) p hp
  · exact ltN (And.left (by assumption))
theorem pop0_spec {x dx : Addr} {n : Nat} {vs : List PySem.Value} {t1 t2 : Tok}
    (B : Below A₀ base outer h₀) (F : Fr h₀ L s.heap m) (X : (hd0.heap_1 w.params).In h₀) (N : News h₀ L s.heap ((x, accObj 99 dx vs n) :: news)) (T : Top topProg LS mean mg mb h₀) (hk : cs.kind = .function)
    (hdx : (dx, accD w.params t1 t2) ∈ news) (hx : ∀ p ∈ news, p.1 ≠ x) (hz : vs.length ≤ 100)
    (hd : dp + 10 < recursionLimit) (hu : un + 100 < cLine)
    (hret : ∀ (D : Addr) (e n' : Nat) h' tk', Fr h₀ L h' m → News h₀ L h' ((x, accObj 99 dx (vs.take 0) n') :: (D, listOf (vs.drop 0).toArray e) :: news) → (∀ p ∈ news, p.1 < D) → @LT.lt Nat _ x D → Q (.ref D) { s with heap := h', toks := tk' }) :
    wpAny (model PG w) (ktrTop dp un gd cn cs L a ccd cl outer) (call (.ref 53) [.ref x]) Q E s := by
  have hI : (some 0 : Option Int) = some ((0 : Nat) : Int) := rfl
  have hx9 := hx
  refine wpAny_call ?_
  k_dflt (refine' code_def ?k1 ?k2 ?k3 ?k4 ?k5 ?kA ?kF ?kK ?k6 ?k7 ?k8 ?k9 ?kB ?_ ?c2 ?c3 ?c4 ?c5; (case kA => exact rfl); (case kF => exact rfl); (case kK => assumption); (case k1 => k_asm); (case k2 => k_asm); (case k3 => k_asm); (case k4 => k_asm); (case k5 => k_asm); (case k6 => k_is); (case k7 => k_is); (case k8 => ktr_room); (case k9 => first | exact BindsTo.of_eq rfl | exact binds_K (by k_in) rfl (by k_is) rfl rfl rfl); (case c5 => decide); (case kB => exact locs rfl); (case c2 => exact rfl); (case c3 => exact rfl); (case c4 => exact rfl); k_whole; intro g' L' h' FG' F' N' B' X' T'; (try dsimp only); (try k_lift B'); (try k_fold))
  repeat (first | walk1 | (dsimp only; walk1))
  refine' pop_ret (Q := Q) hret (by assumption) (by assumption) hI (by lia) (by k_mem) (by k_mem) ?_ ?_ ?_
  · intro p hp; repeat (first | exact hp | apply List.mem_cons_of_mem)
  · exact fun p hp => allLt_out (And.right (by assumption)) p hp
  · exact ltN (And.left (by assumption))
theorem reset_spec {x dx l : Addr} {n e : Nat} {vs ws : List PySem.Value} {t1 t2 : Tok}
    (B : Below A₀ base outer h₀) (F : Fr h₀ L s.heap m) (X : (hd0.heap_1 w.params).In h₀) (N : News h₀ L s.heap ((x, accObj 99 dx vs n) :: (dx, accD w.params t1 t2) :: news)) (T : Top topProg LS mean mg mb h₀) (hk : cs.kind = .function)
    (hl : (l, listOf ws.toArray e) ∈ news) (hlx : l ≠ x) (hxd : x ≠ dx) (hx : ∀ p ∈ news, p.1 ≠ x) (hdx : ∀ p ∈ news, p.1 ≠ dx) (hz : vs.length ≤ 100) (hzw : ws.length ≤ 100)
    (hd : dp + 10 < recursionLimit) (hu : un + 100 < cLine)
    (hret : ∀ (n' : Nat) (t1 t2 : Tok) h' tk', Fr h₀ L h' m → News h₀ L h' ((x, accObj 99 dx ws n') :: (dx, accD w.params t1 t2) :: news) → Q .none { s with heap := h', toks := tk' }) :
    wpAny (model PG w) (ktrTop dp un gd cn cs L a ccd cl outer) (call (.ref 82) [.ref x, .ref l]) Q E s := by
  have hx9 := hx
  refine wpAny_call ?_
  k_dflt (refine' code_def ?k1 ?k2 ?k3 ?k4 ?k5 ?kA ?kF ?kK ?k6 ?k7 ?k8 ?k9 ?kB ?_ ?c2 ?c3 ?c4 ?c5; (case kA => exact rfl); (case kF => exact rfl); (case kK => assumption); (case k1 => k_asm); (case k2 => k_asm); (case k3 => k_asm); (case k4 => k_asm); (case k5 => k_asm); (case k6 => k_is); (case k7 => k_is); (case k8 => ktr_room); (case k9 => first | exact BindsTo.of_eq rfl | exact binds_K (by k_in) rfl (by k_is) rfl rfl rfl); (case c5 => decide); (case kB => exact locs rfl); (case c2 => exact rfl); (case c3 => exact rfl); (case c4 => exact rfl); k_whole; intro g' L' h' FG' F' N' B' X' T'; (try dsimp only); (try k_lift B'); (try k_fold))
  repeat (first | walk1 | (dsimp only; walk1))
  exact reset_ret (Q := Q) hret (by assumption) (by assumption)
end
end
theorem kw_D7a : True := (by k_with_none; w_top off; exact trivial)
section
open PySem PySem.W PyProof.Rows PySem.Calls
open Lean Elab Tactic Meta
noncomputable def SeqAt (h : Heap) (l : Addr) (items : Array PySem.Value) : Prop := ∃ o n, h.get? l = some o ∧ o.data = .seq items n
theorem SeqAt.at' {h h' : Heap} {l : Addr} {items : Array PySem.Value} (x : SeqAt h l items) (e : ∀ o, h.get? l = some o → h'.get? l = some o) : SeqAt h' l items := let ⟨o, n, ho, hd⟩ := x; ⟨o, n, e o ho, hd⟩
section
variable {prog : PySem.Program} {w : World} {A : Around} {E : PySem.Value → Shared → Prop} {s : Shared}
theorem next_item {it l : Addr} {i : Nat} {items : Array PySem.Value} {x : PySem.Value} {Q : Option PySem.Value → Shared → Prop} (hit : s.heap.IsListIter it l i)
    (hl : SeqAt s.heap l items) (hx : items[i]? = some x)
    (hQ : ∀ h', h'.IsListIter it l (i + 1) → Heap.SameBut it s.heap h' → Q (some x) { s with heap := h' }) :
    wpAny (model prog w) A (pyNext (.ref it)) Q E s := by
  obtain ⟨o, ho, hc, hd⟩ := id hit
  obtain ⟨ol, nl, hol, hdl⟩ := hl
  unfold pyNext
  refine wpAny_bind (wpAny_attempt (wpAny_callSpecial?_slot (name := Str.ofString "__next__") hit.typeIs slot_listiter_next
    (wpAny_call_entry slot_listiter_next hit.typeIs entry_listiter_next ?_ (args_listiter_next _))))
  show wpAny _ _ (field (.ref it) 0 >>= _) _ _ s
  refine wpAny_bind (wpAny_field ho hd (x := .ref l) rfl ?_)
  show wpAny _ _ (if (Value.ref l == Value.none) = true then _ else _) _ _ s
  rw [if_neg (show ¬ ((Value.ref l == Value.none) = true) from Bool.false_ne_true)]
  show wpAny _ _ (field (.ref it) 1 >>= _) _ _ s
  refine wpAny_bind (wpAny_field ho hd (x := .int i 0) rfl ?_)
  show wpAny _ _ (seqItems? (.ref l) >>= _) _ _ s
  refine wpAny_bind (wpAny_seqItems hol hdl ?_)
  simp only [Int.toNat_natCast, hx]
  refine wpAny_bind (wpAny_setField ho hd (by simp) (wpAny_pure ⟨x, rfl, wpAny_pure (hQ _ ?_ (Heap.SameBut.update ..))⟩))
  exact ⟨_, Heap.get?_update_self _ ho (Obj.isFreed_of_fields (Obj.data_mapFields hd _)), (Obj.cls_mapFields ..).trans hc, by
    rw [Obj.data_mapFields hd]; simp [rawInt]⟩
theorem next_end {it l : Addr} {i : Nat} {items : Array PySem.Value} {Q : Option PySem.Value → Shared → Prop} (hh : A.handled = none)
    (hit : s.heap.IsListIter it l i) (hl : SeqAt s.heap l items) (hx : items[i]? = none)
    (hQ : ∀ h', Heap.ExtBut it s.heap h' → Q none { s with heap := h' }) : wpAny (model prog w) A (pyNext (.ref it)) Q E s := by
  obtain ⟨o, ho, hc, hd⟩ := id hit
  obtain ⟨ol, nl, hol, hdl⟩ := hl
  unfold pyNext
  refine wpAny_bind (wpAny_attempt (wpAny_callSpecial?_slot (name := Str.ofString "__next__") hit.typeIs slot_listiter_next
    (wpAny_call_entry slot_listiter_next hit.typeIs entry_listiter_next ?_ (args_listiter_next _))))
  show wpAny _ _ (field (.ref it) 0 >>= _) _ _ s
  refine wpAny_bind (wpAny_field ho hd (x := .ref l) rfl ?_)
  show wpAny _ _ (if (Value.ref l == Value.none) = true then _ else _) _ _ s
  rw [if_neg (show ¬ ((Value.ref l == Value.none) = true) from Bool.false_ne_true)]
  show wpAny _ _ (field (.ref it) 1 >>= _) _ _ s
  refine wpAny_bind (wpAny_field ho hd (x := .int i 0) rfl ?_)
  show wpAny _ _ (seqItems? (.ref l) >>= _) _ _ s
  refine wpAny_bind (wpAny_seqItems hol hdl ?_)
  simp only [Int.toNat_natCast, hx]
  refine wpAny_bind (wpAny_rule (wpAny_bind (wpAny_setField ho hd (by simp) ?_)))
  show wpAny _ _ (newExc (.type "StopIteration") [] >>= _) _ _ _
  refine wpAny_bind ?_
  simp only [newExc, newTuple]
  refine wpAny_bind (wpAny_newObj_type ?_ (by size_fits))
  refine wpAny_bind (m := firstArgMember _ _) (wpAny_of_eq (a := Value.none) (by first | rfl | (simp only [firstArgMember]; rfl)) ?_)
  refine wpAny_newObj_type ?_ (by size_fits)
  simp only [raiseNew]
  refine wpAny_bind (wpAny_handled ?_)
  rw [show A.in1.handled = none from hh]
  refine wpAny_bind (wpAny_pure (wpAny_throw ?_))
  refine wpAny_bind (wpAny_isInstance (T := "StopIteration") (b := true) ⟨_, Heap.get?_push_size _ rfl, rfl⟩ isSubtype_stop ?_)
  exact wpAny_pure (hQ _ (((Heap.SameBut.update ..).extBut.push _).push _))
end
theorem walksAcc {prog : PySem.Program} {w : World} {A : Around} (hh : A.handled = none) (I ax : Addr) (hne : ax ≠ I) (items : Array PySem.Value) (Ts : Nat → Addr) (vals : Nat → Array PySem.Value)
    (hit : ∀ j, j < items.size → items[j]? = some (.ref (Ts j))) (hTI : ∀ j, j < items.size → Ts j ≠ I) :
    WalksU prog w A I (I :: ax :: (List.range items.size).map Ts) [I] items.size (fun j v => v = vals j)
      (fun j h => h.IsListIter I ax j ∧ SeqAt h ax items ∧ ∀ k, k < items.size → h.IsTuple (Ts k) (vals k))
      (fun j T h => (j < items.size ∧ T = Ts j) ∧ h.IsListIter I ax (j + 1) ∧ SeqAt h ax items ∧ ∀ k, k < items.size → h.IsTuple (Ts k) (vals k)) where
  sub := fun b hb => by simp at hb; simp [hb]
  frame := fun _ _ _ st hk => ⟨st.1.at fun o e => hk I (by simp) o e, st.2.1.at' fun o e => hk ax (by simp) o e,
    fun k hk' => (st.2.2 k hk').at fun o e => hk (Ts k) (List.mem_cons_of_mem _ (List.mem_cons_of_mem _ (List.mem_map.mpr ⟨k, List.mem_range.mpr hk', rfl⟩))) o e⟩
  item := fun i s Q E hi st hQ => by
    refine next_item st.1 st.2.1 (x := .ref (Ts i)) (hit i hi) fun h' hit' hs' => ?_
    have tup : ∀ k, k < items.size → h'.IsTuple (Ts k) (vals k) := fun k hk' => (st.2.2 k hk').extBut hs'.extBut (hTI k hk')
    exact hQ (Ts i) (vals i) h' s.toks rfl (tup i hi) ⟨⟨hi, rfl⟩, hit', st.2.1.at' (fun o e => hs'.extBut ax o hne e), tup⟩ fun b o hb e => hs'.extBut b o (fun h => hb (by simp [h])) e
  go := fun _ _ _ _ _ s Q _ hm hQ => PySem.wpAny_letOwnedTupleGo_listiter hm.2.1 (hQ s.heap hm.2 fun _ _ _ e => e)
  apart := fun j T _ hm hmem => by
    rcases List.mem_cons.mp hmem with e | e
    · exact hTI j hm.1.1 (hm.1.2 ▸ e)
    · cases e
  done := fun s Q E st hQ => next_end hh st.1 st.2.1 (by simp) fun h' he' => hQ h' s.toks fun b o hb e => he' b o (fun h => hb (by simp [h])) e
  self := fun _ _ _ _ st hQ => wpAny_pyIter_listiter st.1 hQ
end
theorem kw_D7b : True := (by k_with_none; w_top off; exact trivial)
section
open PySem PySem.W PyProof.Rows PySem.Calls
open Lean Elab Tactic Meta
/-- the table of a def with one generator expression, before or after its first run -/
noncomputable def TabG (a b : Int) (o : PySem.Obj) : Prop := o = tabObj #[] ∨ ∃ c : Addr, o = tabObj (#[] ++ #[rawInt a, rawInt b, .ref c])
section
variable {prog : PySem.Program} {w : World} {A : Around} {E : PySem.Value → Shared → Prop} {s : Shared} {h₀ : Heap} {L : Addr} {m mg mb : PySem.Str → Option PySem.Value} {news : List (Addr × PySem.Obj)} {x : Addr} {ox : PySem.Obj} {odx : Option PySem.Obj}
theorem acc_iter {Q : PySem.Value → Shared → Prop} (X : (hd0.heap_1 w.params).In s.heap) (I : InstAt s.heap x ox 99 odx)
    (hQ : Q (.ref s.heap.objs.size) { s with heap := s.heap.push { cls := .type "list_iterator", data := .fields #[.ref x, .int 0 0] } }) : wpAny (model prog w) A (pyIter (.ref x)) Q E s := by
  have hsp : Looks (model prog w) s.heap (specialOf (.ref x) "__iter__") (some (.builtin "list.__iter__")) := I.type.andThen (looks_findIn X fd_iter)
  have hb : bindSpecial (.builtin "list.__iter__") (.ref x) = pure (.builtin "list.__iter__", [.ref x]) := slot_list_iter.bind _
  have hrun : wpAny (model prog w) A (call (.builtin "list.__iter__") [.ref x]) (fun it s' => ∃ T' r, s'.TypeIs it T' ∧ typeLookup (.type T') "__next__" = pure (some r) ∧ Q it s') E s := by
    refine wpAny_call (codeAny_call_builtin (by decide +kernel) entry_list_iter (@check_slot (model prog w) _ _ s "list.__iter__" "list" "__iter__" (.ref x) [] [] _ (by decide +kernel) (by decide +kernel) (looks_isL X I) (args_list_iter _) ?_))
    show wpAny _ _ (do ret (← newFields "list_iterator" [.ref x, rawInt 0])) _ _ s
    refine wpAny_bind (wpAny_newObj_type (wpAny_pure ?_))
    exact ⟨"list_iterator", _, ⟨_, Heap.get?_push_size _ rfl, rfl⟩, slot_listiter_next.lookup, hQ⟩
  unfold pyIter
  refine wpAny_bind (hsp.here ?_)
  show wpAny _ A (callSpecialIfBoundUnlessNone? (.ref x) "__iter__" _ >>= _) _ E s
  refine wpAny_bind ?_
  simp only [callSpecialIfBoundUnlessNone?, bindSpecialIfBound?]
  refine wpAny_holding (wpAny_bind (wpAny_bind (hsp.here ?_)))
  simp only [hb]
  have fin : ∀ (refuse : Sem PySem.Value) (Q' : Option PySem.Value → Shared → Prop), (∀ v s', (∃ T' r, s'.TypeIs v T' ∧ typeLookup (.type T') "__next__" = pure (some r) ∧ Q v s') → Q' (some v) s') → wpAny (model prog w) A (if (Value.builtin "list.__iter__" == Value.none) = true then (refuse >>= fun v => pure (some v)) else (call (.builtin "list.__iter__") [.ref x] >>= fun v => pure (some v))) Q' E s := by
    intro refuse Q' hq
    rw [if_neg (by decide)]
    exact wpAny_bind (wpAny_mono hrun (fun v s' h' => wpAny_pure (hq v s' h')) fun _ _ h' => h')
  have cont : ∀ v s', (∃ T' r, s'.TypeIs v T' ∧ typeLookup (.type T') "__next__" = pure (some r) ∧ Q v s') → wpAny (model prog w) A (specialOf v "__next__" >>= fun o => match o with | none => (do rule "iter.non-iterator"; raiseError "TypeError" s!"iter() returned non-iterator of type '{← typeNameOf v}'") | some _ => pure v) Q E s' := by
    rintro v s' ⟨T', r, hT', hl, hq⟩
    exact wpAny_bind (wpAny_specialOf hT' hl (wpAny_pure hq))
  refine wpAny_bind (wpAny_askSetting (wpAny_ite ?_))
  split
  · exact wpAny_bind (wpAny_pure (wpAny_pure (fin _ _ cont)))
  · exact wpAny_tryCatch (wpAny_bind (wpAny_pure (wpAny_pure (fin _ _ cont))))
theorem gx_code {env : Env} {c P : Addr} {pos : Pos} {q : PySem.Str} {scope : Scope} {o3 : PySem.Obj} (hcode : env.code = .ref c) (Cd : CodeHd s.heap c P) (hP : s.heap.get? P = some o3) (ht : TabG pos.line pos.col o3) :
    wpAny (model prog w) A (genexprCode env pos q scope) (fun _ s₃ => ∃ h₃ tk₃ o3', s₃ = { s with heap := h₃, toks := tk₃ } ∧ Heap.ExtBut P s.heap h₃ ∧ s.heap.objs.size ≤ h₃.objs.size ∧ h₃.get? P = some o3' ∧ TabG pos.line pos.col o3') E s := by
  rcases ht with rfl | ⟨c', rfl⟩
  · refine PySem.wpAny_genexprCodeX hcode (Cd.code hP (by exact True.intro)) (Cd.tab hP) rfl fun c' h' tk hx hge hlt _ _ htab _ => ⟨h', tk, _, rfl, hx, Nat.le_trans hge (Nat.le_of_lt hlt), htab.2, .inr ⟨c', rfl⟩⟩
  · refine PySem.wpAny_genexprCode_hit hcode (Cd.code hP (by simp [TriplesOk, rawInt])) (c' := .ref c') (by simp [codeAmong, rawInt]) ⟨s.heap, s.toks, _, rfl, fun _ _ _ e => e, Nat.le_refl _, hP, .inr ⟨c', rfl⟩⟩
end
end
theorem kw_D7c : True := (by k_with_none; w_top off; exact trivial)
section
open PySem PySem.W PyProof.Rows PySem.Calls
open Lean Elab Tactic Meta
section
variable {prog : PySem.Program} {w : World} {A : Around} {E : PySem.Value → Shared → Prop} {s : Shared} {h₀ : Heap} {L : Addr} {m mg mb : PySem.Str → Option PySem.Value} {news : List (Addr × PySem.Obj)} {x : Addr} {p : PySem.Program} {loose : List PySem.Str} {mean : ExcName → Option PySem.Value}
theorem genx {env : Env} {elt iter : PySem.Expr} {xa xb : PySem.Str} {pa pb pt : Pos} {kt : Nat} {scope : Scope} {pos : Pos} {o3 : PySem.Obj} {dx : Addr} {vs : List PySem.Value} {n : Nat} {od : PySem.Obj} {tvs : List (Addr × PySem.Value × PySem.Value)} {txt : Nat → PySem.Str} {Q : PySem.Value → Shared → Prop}
    (F : Fr h₀ L s.heap m) (X₀ : (hd0.heap_1 w.params).In h₀) (N : News h₀ L s.heap news) (T : Top p loose mean mg mb h₀) (Cd : CodeHd h₀ 73 69) (hm : (69, o3) ∈ news) (ht : TabG pos.line pos.col o3) (hx : (x, accObj 99 dx vs n) ∈ news) (hdx : (dx, od) ∈ news)
    (hvs : vs = tvs.map (fun t => .ref t.1)) (hti : ∀ t ∈ tvs, s.heap.IsTuple t.1 #[t.2.1, t.2.2]) (hT69 : ∀ t ∈ tvs, t.1 ≠ 69) (hx69 : x ≠ 69) (G : AllBare s.gens)
    (hcode : env.code = .ref 73) (hglob : env.globals = mainGlobals) (hh : A.handled = none) (hco : scope.isCoroutine = false) (hclos : closureFor scope env = pure []) (hcell : ∀ y ∈ scope.names, y.2 ≠ .cell) (h0 : scope.names.lookup (".0" : PySem.Str) = some NameKind.local)
    (hxa : scope.names.lookup xa = some .local) (hxb : scope.names.lookup xb = some .local) (hab : xa ≠ xb) (hkind : scope.kind = .function) (hroom : A.depth < recursionLimit)
    (hiter : wpAny (model prog w) A (eval iter env) (fun v s' => v = .ref x ∧ s' = s) E s)
    (helt : ∀ (C : Addr) (code : PySem.Value) (A' : Around) E' i t (u : Shared) m₂, A'.handled = none → A'.depth ≤ A.depth + 1 → A'.units ≤ A.units + 8 → tvs[i]? = some t → Fr h₀ C u.heap m₂ → m₂ xa = some t.2.1 → m₂ xb = some t.2.2 →
      wpAny (model prog w) A' (eval elt (genEnv scope [] C code builtinsNs env)) (fun y s₃ => (∃ v, y = .str (txt i) v) ∧ Keeps u s₃) E' u)
    (hQ : ∀ a o3' s₅, Fr h₀ L s₅.heap m → AllBare s₅.gens → s₅.os = s.os → TabG pos.line pos.col o3' → s₅.heap.get? 69 = some o3' → (∀ b o, b ≠ 69 → s.heap.get? b = some o → s₅.heap.get? b = some o) →
      Gen prog w A (s.heap.objs.size - 1) a (passing (fun _ => true) vs.length 0).length (fun j y => ∃ i, (passing (fun _ => true) vs.length 0)[j]? = some i ∧ ∃ v, y = .str (txt i) v) s₅ → Q (.ref a) s₅)
    (hs : ∀ x, genFold iter env x = pure x) :
    wpAny (model prog w) A (eval (.GeneratorExp elt [⟨.Tuple [.Name xa pa, .Name xb pb] kt pt, iter, [], 0⟩] scope pos) env) Q E s := by
  have X := X₀.keeps F.keep
  have gx := (N _ hx).1
  have g69 := (N _ hm).1
  have I : InstAt s.heap x (accObj 99 dx vs n) 99 (some od) := ⟨gx, rfl, rfl, (N _ hdx).1⟩
  have hlim : s.heap.NoLimit := T.nolimit.keeps F.keep
  obtain ⟨bm, ob, hbm, hbne, hbo, hbc, hbd, hbda⟩ := T.bmain
  have hLs : L < s.heap.objs.size := F.ns.lt
  refine PySem.wpAny_GeneratorExp_walksQTD hh hco hclos hcell h0 hxa hxb hab hkind hroom (wpAny_mono hiter (fun xv s₁ h₁ => ?_) fun _ _ e => e) hs
  obtain ⟨rfl, rfl⟩ := h₁
  refine acc_iter X I ?_
  have up : ∀ b o, s₁.heap.get? b = some o → (s₁.heap.push { cls := .type "list_iterator", data := .fields #[.ref x, .int 0 0] }).get? b = some o := fun _ _ e => Heap.get?_push_of_some _ e
  refine ⟨hlim.keeps up, ?_⟩
  refine wpAny_mono (gx_code hcode ((Cd.keeps F.keep).keeps up) (up _ _ g69) ht) (fun code s₃ h₃' => ?_) fun _ _ e => e
  obtain ⟨h₃, tk₃, o3', rfl, hext, hsz, h69, ht'⟩ := h₃'
  have F₃ : Fr h₀ L h₃ m := by
    refine ⟨?_, fun b o e => ?_, F.above⟩
    · exact (F.ns.at' fun o e => hext _ _ (fun q => (N _ hm).2.1 q.symm) (up _ _ e))
    · refine hext _ _ (fun q => ?_) (up _ _ (F.keep _ _ e))
      have := (N _ hm).2.2
      rw [← q, e] at this; cases this
  refine PySem.wpAny_builtinsFor (bm := bm) (o := ob) ?_ hbm hbne (F₃.keep _ _ hbo) hbc hbd hbda ?_
  · rw [hglob]; exact T.g.keeps F₃.keep
  let Ts : Nat → Addr := fun j => (tvs[j]?.map fun t => t.1).getD 0
  let vals : Nat → Array PySem.Value := fun j => (tvs[j]?.map fun t => (#[t.2.1, t.2.2] : Array PySem.Value)).getD #[.none, .none]
  have hlen : vs.length = tvs.length := by rw [hvs, List.length_map]
  have hsize : vs.toArray.size = tvs.length := by rw [List.size_toArray, hlen]
  have at' : ∀ j, j < vs.toArray.size → ∃ t, tvs[j]? = some t ∧ t ∈ tvs := fun j hj => ⟨tvs[j]'(by lia), by simp [show j < tvs.length by lia], List.getElem_mem _⟩
  have hTs : ∀ j, j < vs.toArray.size → s₁.heap.IsTuple (Ts j) (vals j) ∧ Ts j ≠ 69 := fun j hj => by
    obtain ⟨t, e, hmm⟩ := at' j hj
    simp only [Ts, vals, e, Option.map_some, Option.getD_some]
    exact ⟨hti t hmm, hT69 t hmm⟩
  have hTlt : ∀ j, j < vs.toArray.size → Ts j < s₁.heap.objs.size := fun j hj => by obtain ⟨⟨_, e, _⟩, _⟩ := hTs j hj; exact Heap.lt_size e
  have hit : ∀ j, j < vs.toArray.size → vs.toArray[j]? = some (.ref (Ts j)) := fun j hj => by
    obtain ⟨t, e, _⟩ := at' j hj
    simp [Ts, e, hvs]
  have hxlt : x < s₁.heap.objs.size := Heap.lt_size gx
  have hext' : ∀ b o, b ≠ 69 → s₁.heap.get? b = some o → h₃.get? b = some o := fun b o hb e => hext b o hb (up b o e)
  have hsz' : s₁.heap.objs.size < h₃.objs.size := Nat.lt_of_lt_of_le (by rw [Heap.size_push]; exact Nat.lt_succ_self _) hsz
  have hI69 : s₁.heap.objs.size ≠ 69 := (Nat.ne_of_lt (Heap.lt_size g69)).symm
  have W := fun (A' : Around) (hA : A'.handled = none) => (walksAcc (prog := prog) (w := w) hA s₁.heap.objs.size x (Nat.ne_of_lt hxlt) vs.toArray Ts vals hit fun j hj => Nat.ne_of_lt (hTlt j hj)).bound
  refine ⟨s₁.heap.objs.size, _, _, _, _, _, _, (fun _ => true), (fun i y => ∃ v, y = .str (txt i) v), rfl, W, (fun i v hv => ?_), ⟨⟨_, hext _ _ hI69 (Heap.get?_push_size _ rfl), rfl, rfl⟩, ⟨_, _, hext' _ _ hx69 gx, rfl⟩, fun k hk => ?_⟩, ?_, ?_, ?_, fun href hhref => ⟨?_, ?_⟩, fun a h₅ tk gs hgb hag hsz₅ hk₅ W₅ hat => ?_⟩
  · rcases hv with ⟨hi, rfl⟩
    obtain ⟨t, et, _⟩ := at' i hi
    exact ⟨t.2.1, t.2.2, by simp [vals, et]⟩
  · obtain ⟨⟨o, e1, r⟩, e2⟩ := hTs k hk
    exact ⟨o, hext' _ _ e2 e1, r⟩
  · intro b hb
    show b < h₃.objs.size
    rcases List.mem_cons.mp hb with rfl | hb
    · exact hsz'
    · rcases List.mem_cons.mp hb with rfl | hb
      · exact Nat.lt_trans hxlt hsz'
      · obtain ⟨k, hk, rfl⟩ := List.mem_map.mp hb
        exact Nat.lt_trans (hTlt k (List.mem_range.mp hk)) hsz'
  · exact (hlim.keeps up).extBut hext (by decide)
  · intro hc
    have h1 := List.mem_singleton.mp hc
    obtain ⟨_, ⟨o, _, _, ho, _⟩, _⟩ := hlim
    have := Heap.lt_size ho
    rw [h1] at this
    exact absurd this (Nat.lt_irrefl _)
  · intro A' E' i va vb s₂ m₂ _ _ _ _ _ _ _ _
    exact wpAny_pure ⟨rfl, s₂.heap, s₂.toks, rfl, fun _ _ e => e⟩
  · intro A' E' i va vb u m₂ hA hD hU hP _ hn hma hmb hkp
    obtain ⟨hi, hv⟩ := hP
    obtain ⟨t, et, _⟩ := at' i hi
    simp only [vals, et, Option.map_some, Option.getD_some] at hv
    obtain ⟨e1, e2⟩ : va = t.2.1 ∧ vb = t.2.2 := by simpa using congrArg Array.toList hv
    subst e1 e2
    refine helt _ _ A' E' i t u m₂ hA hD hU et ⟨hn, fun b o e => ?_, ?_⟩ hma hmb
    · have hb := Heap.lt_size e
      have hbL : b < L := Nat.lt_of_lt_of_le hb F.above
      refine hkp b (List.mem_range.mpr (Nat.lt_trans hbL (Nat.lt_trans hLs hsz'))) (fun q => ?_) o (hhref b o (F₃.keep b o e))
      have := List.mem_singleton.mp q
      exact absurd hLs (Nat.not_lt.mpr (Nat.le_of_lt (this ▸ hbL)))
    · exact Nat.le_trans F.above (Nat.le_of_lt (Nat.lt_trans hLs hsz'))
  · rw [List.size_toArray] at W₅ hat
    refine hQ a o3' _ (F₃.keeps hk₅) (G.push hgb) rfl ht' (hk₅ _ _ h69) (fun b o hb e => hk₅ b o (hext' b o hb e)) ⟨_, _, _, _, W₅, hat, (fun i s' st => st.1.typeIs), List.mem_cons_self, ?_, ?_⟩
    · intro b hb
      show b < h₅.objs.size
      rw [hsz₅]
      rcases List.mem_cons.mp hb with rfl | hb
      · exact Nat.lt_succ_self _
      · rcases List.mem_cons.mp hb with rfl | hb
        · exact Nat.lt_succ_of_lt hag
        · exact Nat.lt_succ_of_lt (Nat.lt_trans (List.mem_range.mp hb) hag)
    · intro b hb
      rcases List.mem_cons.mp hb with rfl | hb
      · show s₁.heap.objs.size - 1 < h₃.objs.size
        exact Nat.lt_of_le_of_lt (Nat.sub_le _ _) hsz'
      · rw [List.mem_singleton.mp hb]
        exact Nat.sub_lt (Nat.lt_of_le_of_lt (Nat.zero_le _) hLs) Nat.one_pos
end
end
theorem kw_D8 : True := (by k_with_none; w_top off; exact trivial)
section
open PySem PySem.W PyProof.Rows
open Lean Elab Tactic Meta
theorem filld8 : PySem.Challenge.rw_sr0071_01 = PySem.Challenge.rw_sr0071_01 ∧ hd0.heap_1 = hd0.heap_1 := by k_fill; exact ⟨rfl, rfl⟩
section
variable {w : World} {mean : ExcName → Option PySem.Value} {mg mb : PySem.Str → Option PySem.Value} {dp un : Nat} {gd : Option (List Code)} {cn : PySem.Str} {cs : Scope} {a : Addr} {ccd : PySem.Value} {cl : List (PySem.Str × Addr)} {outer : List Env} {A₀ : Around} {base h₀ : Heap} {L : Addr} {m : PySem.Str → Option PySem.Value} {news : List (Addr × PySem.Obj)} {s : Shared}
    {Q E : PySem.Value → Shared → Prop}
/-- a piece of the bench -/
noncomputable def pieceD (c : PySem.Str) : Dat := Dat.tuple [.str " ", .str c]
theorem pieces_of {vs : List PySem.Value} : ∀ {cps : List PySem.Str}, DatAll news vs (cps.map pieceD) → ∃ tvs : List (Addr × PySem.Value × PySem.Value), vs = tvs.map (fun t => .ref t.1) ∧ tvs.length = cps.length ∧ ∀ (i : Nat) (t : Addr × PySem.Value × PySem.Value), tvs[i]? = some t → ∃ (c : PySem.Str) (u1 u2 : Tok) (e : Nat), cps[i]? = some c ∧ t.2.1 = .str " " u1 ∧ t.2.2 = .str c u2 ∧ (t.1, tupO [t.2.1, t.2.2] e) ∈ news := by
  induction vs with
  | nil =>
    intro cps h
    cases cps with
    | nil => exact ⟨[], rfl, rfl, fun i t h => by cases h⟩
    | cons c r => cases h
  | cons v vs ih =>
    intro cps h
    cases cps with
    | nil => cases h
    | cons c r =>
      cases h with
      | cons h1 h2 =>
        obtain ⟨tvs, e1, e2, e3⟩ := ih h2
        cases h1 with
        | @tuple ad vv nn ds hmem hall =>
          cases hall with
          | cons ha hb => cases hb with
            | cons hc hd' => cases hd' with
              | nil => cases ha with
                | str _ u1 => cases hc with
                  | str _ u2 =>
                    refine ⟨(ad, .str " " u1, .str c u2) :: tvs, by rw [e1]; rfl, by simp [e2], fun i t hi => ?_⟩
                    cases i with
                    | zero => cases hi; exact ⟨c, u1, u2, nn, rfl, rfl, rfl, hmem⟩
                    | succ i => exact e3 i t hi
/-- the text of a piece -/
noncomputable def pieceT (c : PySem.Str) : PySem.Str := Str.ofString " " ++ c
theorem fold_len : ∀ (l : List PySem.Str) (k : Nat), (∀ c ∈ l, c.length ≤ 2) → l.foldl (fun a c => a + c.length + (Str.ofString "").length) k ≤ k + 2 * l.length
  | [], k, _ => Nat.le_refl _
  | c :: r, k, h => by
    have h1 := h c (.head _)
    have h0 : (Str.ofString "").length = 0 := by decide
    have h2 := fold_len r (k + c.length + (Str.ofString "").length) fun x hx => h x (.tail _ hx)
    rw [List.foldl_cons, List.length_cons]
    lia
theorem joinOk_small {l : List PySem.Str} (h : ∀ c ∈ l, c.length ≤ 2) (hn : l.length ≤ 1000) : PySem.JoinOk (Str.ofString "") l = true := by
  have := fold_len l 0 h
  unfold PySem.JoinOk
  rw [List.foldl_toArray']
  · simp only [Bool.not_eq_true', PySem.Builtin.Str.tooLong, decide_eq_false_iff_not, sizeLine_eq]
    lia
  · simp
theorem news_nil {h : Heap} {C : Addr} {u : PySem.Str → Option PySem.Value} (hF : Fr h₀ C h u) : News h₀ C h [] := fun _ hp => nomatch hp
theorem nsEmpty {P : PySem.Params} : nsIn (hd0.heap_1 P) mainGlobals (Str.ofString "EMPTYSTRING") = some (some (.str (Str.ofString "") 196)) := by kernel_rfl
theorem join2 (c : PySem.Str) : PySem.Txt.join (Str.ofString "") [Str.ofString " ", c] = pieceT c := by
  show PySem.Builtin.Str.glued (Str.ofString "") [Str.ofString " ", c] = _
  rw [StrLaws.glued_eq_join]
  show (Str.ofString " " ++ Str.ofString "") ++ c = _
  have : Str.ofString " " ++ Str.ofString "" = Str.ofString " " := by decide
  rw [this]; rfl
theorem pass_all (n : Nat) : passing (fun _ => true) n 0 = List.range n := by
  unfold passing
  rw [List.drop_zero, List.filter_eq_self]
  intros; rfl
theorem range_tx (cps : List PySem.Str) : (List.range cps.length).map (fun j => pieceT (cps.getD j (Str.ofString ""))) = cps.map pieceT := by
  have e := range_getD cps (Str.ofString "")
  conv => rhs; rw [← e]
  rw [List.map_map]; rfl
theorem pieceT_len {c : PySem.Str} (h : c.length ≤ 1) : (pieceT c).length ≤ 2 := by
  have e : (pieceT c).length = (Str.ofString " ").length + c.length := by
    show ((Str.ofString " ").cps ++ c.cps).size = _
    rw [Array.size_append]; rfl
  have h0 : (Str.ofString " ").length = 1 := by decide
  lia
theorem str_spec {x dx : Addr} {n : Nat} {vs : List PySem.Value} {t1 t2 : Tok} {o3 : PySem.Obj} {cps : List PySem.Str}
    (B : Below A₀ base outer h₀) (F : Fr h₀ L s.heap m) (X : (hd0.heap_1 w.params).In h₀) (N : News h₀ L s.heap ((69, o3) :: news)) (T : Top topProg LS mean mg mb h₀) (hk : cs.kind = .function)
    (C3 : CodeHd h₀ 73 69) (hn69 : ∀ p ∈ news, p.1 ≠ 69) (ht : TabG 27 32 o3) (G : AllBare s.gens)
    (hx : (x, accObj 99 dx vs n) ∈ news) (hdx : (dx, accD w.params t1 t2) ∈ news) (hps : DatAll news vs (cps.map pieceD)) (hz : cps.length ≤ 100) (hcl : ∀ c ∈ cps, c.length ≤ 1)
    (hd : dp + 10 < recursionLimit) (hu : un + 100 < cLine)
    (hret : ∀ (t : Tok) (o3' : PySem.Obj) h' tk' gs' dr', AllBare gs' → Fr h₀ L h' m → News h₀ L h' ((69, o3') :: news) → TabG 27 32 o3' → Q (.str (PySem.Txt.join "" (cps.map pieceT)) t) { heap := h', gens := gs', drawn := dr', toks := tk', os := s.os }) :
    wpAny (model PG w) (ktrTop dp un gd cn cs L a ccd cl outer) (call (.ref 74) [.ref x]) Q E s := by
  obtain ⟨tvs, hvs, hlen, hpc⟩ := pieces_of hps
  refine wpAny_call ?_
  k_dflt cell_enter
  have C3' : CodeHd _ 73 69 := C3.keeps (Fr.keep (by assumption))
  repeat (first | walk1 | (dsimp only; walk1))
  rename Fr _ _ _ _ => F2
  rename News _ _ _ _ => N2
  k_dflt (refine' genx (tvs := tvs) (txt := fun i => pieceT (cps.getD i (Str.ofString ""))) F2 ?gX N2 ?gT C3' (.head _) ht (.tail _ hx) (.tail _ hdx) hvs ?gti ?g69 (hn69 _ hx) G ?gcode ?gglob ?gh ?gco ?gcl ?gcell ?g0 ?ga ?gb ?gab ?gk ?groom ?giter ?gelt ?gQ ?gs)
  case gX => k_asm
  case gT => k_asm
  case gti =>
    intro t ht'
    obtain ⟨i, hi, rfl⟩ := List.mem_iff_getElem.mp ht'
    obtain ⟨c, u1, u2, e, _, _, _, hmem⟩ := hpc i _ (List.getElem?_eq_getElem hi)
    exact ⟨_, (N2 _ (.tail _ hmem)).1, rfl, e, rfl⟩
  case g69 =>
    intro t ht'
    obtain ⟨i, hi, rfl⟩ := List.mem_iff_getElem.mp ht'
    obtain ⟨c, u1, u2, e, _, _, _, hmem⟩ := hpc i _ (List.getElem?_eq_getElem hi)
    exact hn69 _ hmem
  case gcode => with_unfolding_all rfl
  case gglob => with_unfolding_all rfl
  case gh => with_unfolding_all rfl
  case gco => with_unfolding_all rfl
  case gcl => with_unfolding_all rfl
  case gcell => decide
  case g0 => with_unfolding_all rfl
  case ga => with_unfolding_all rfl
  case gb => with_unfolding_all rfl
  case gab => decide
  case gk => with_unfolding_all rfl
  case groom => ktr_room
  case gs => intro _; with_unfolding_all rfl
  case giter => walk1; exact ⟨rfl, rfl⟩
  case gelt =>
    intro C code A' E' i t u m₂ hA hD hU hti F9 hma hmb
    clear F2 N2
    have N9 := news_nil F9
    obtain ⟨c, u1, u2, e, hc1, hc2, hc3, _⟩ := hpc i t hti
    rw [hc2] at hma
    rw [hc3] at hmb
    rename Frag.In _ _ => XG
    rename Top _ _ _ _ _ _ => TG
    walk1
    refine Calls.Name_function_global (by with_unfolding_all rfl) (by with_unfolding_all rfl) (Calls.loadGlobal_global (TG.g.keeps F9.keep) (mg_of XG TG.g nsEmpty) ?_) (by decide)
    iterate 5 (first | walk1 | (dsimp only; walk1))
    refine wpAny_Name (wpAny_loadName_local (by with_unfolding_all rfl) (by with_unfolding_all rfl) F9.ns hma ?_) (by decide)
    iterate 1 (first | walk1 | (dsimp only; walk1))
    refine wpAny_Name (wpAny_loadName_local (by with_unfolding_all rfl) (by with_unfolding_all rfl) F9.ns hmb ?_) (by decide)
    walk1
    unfold newTuple
    refine wpAny_newObj_type ?_ (by size_fits)
    walk1
    refine join_tupleW (items := #[.str (Str.ofString " ") u1, .str c u2]) (ys := [Str.ofString " ", c]) ⟨_, Heap.get?_push_size _ rfl, rfl, _, rfl⟩ (.cons _ _ (.cons _ _ .nil)) (by decide) ?_ ?_
    · have := hcl c (List.mem_of_getElem? hc1)
      have h0 : (Str.ofString " ").length = 1 := by decide
      simp only [List.map_cons, List.map_nil, List.sum_cons, List.sum_nil, List.length_cons, List.length_nil, h0]
      lia
    · intro t' k
      refine ⟨⟨t', ?_⟩, ⟨_, _, rfl, fun b o e => Heap.get?_push_of_some _ e⟩⟩
      have e1 : cps.getD i (Str.ofString "") = c := by rw [List.getD_eq_getElem?_getD, hc1]; rfl
      rw [e1, join2]
  case gQ =>
    intro a' o3' s5 F5 G5 hos ht5 h69 hkeep hGen
    walk1
    have hL := F2.ns.lt
    have hvl : vs.length = cps.length := by rw [hvs, List.length_map, hlen]
    have hN5 : ∀ p ∈ news, s5.heap.get? p.1 = some p.2 ∧ p.1 ≤ _ - 1 := fun p hp => ⟨hkeep _ _ (hn69 p hp) (N2 _ (.tail _ hp)).1, Nat.le_sub_one_of_lt (Heap.lt_size (N2 _ (.tail _ hp)).1)⟩
    have h69lt : 69 ≤ _ - 1 := Nat.le_sub_one_of_lt (Heap.lt_size (N2 _ (.head _)).1)
    refine join_rowsK F5 G5 hGen (Nat.le_sub_one_of_lt hL) (fun j => pieceT (cps.getD j (Str.ofString ""))) ?htx ?hok ?hQ ?hsz
    case htx =>
      rintro j v ⟨i, hi, u, e⟩
      rw [pass_all] at hi
      have := List.getElem?_range (show j < vs.length from by
        have := (List.getElem?_eq_some_iff.mp hi).1
        rwa [List.length_range] at this)
      rw [this] at hi
      cases hi
      exact ⟨u, e⟩
    case hok =>
      rw [pass_all, List.length_range, hvl, range_tx]
      exact joinOk_small (fun c hc => by
        obtain ⟨c', hc', rfl⟩ := List.mem_map.mp hc
        exact pieceT_len (hcl c' hc')) (by rw [List.length_map]; lia)
    case hsz => rw [pass_all, List.length_range, hvl, sizeLine_eq]; lia
    case hQ =>
      intro s6 t6 F6 G6 hos6 hk6
      have N6 : News _ _ s6.heap ((69, o3') :: news) := fun p hp => by
        rcases List.mem_cons.mp hp with rfl | hp
        · exact ⟨hk6 _ _ h69lt h69, (N2 _ (.head _)).2⟩
        · exact ⟨hk6 _ _ (hN5 p hp).2 (hN5 p hp).1, (N2 _ (.tail _ hp)).2⟩
      rw [pass_all, List.length_range, hvl, range_tx]
      clear F2 N2 F5 hN5
      obtain ⟨h6, g6, d6, tk6, os6⟩ := s6
      walk1
      rename Fr _ _ _ _ => kF
      rename News _ _ _ _ => kN
      have e : os6 = s.os := hos6.trans hos
      subst e
      exact hret t6 o3' h6 tk6 g6 d6 G6 kF kN ht5
theorem str_call {x dx : Addr} {n : Nat} {vs : List PySem.Value} {t1 t2 : Tok} {o3 : PySem.Obj} {cps : List PySem.Str}
    (B : Below A₀ base outer h₀) (F : Fr h₀ L s.heap m) (X : (hd0.heap_1 w.params).In h₀) (N : News h₀ L s.heap ((69, o3) :: news)) (T : Top topProg LS mean mg mb h₀) (hk : cs.kind = .function)
    (C3 : CodeHd h₀ 73 69) (hn69 : ∀ p ∈ news, p.1 ≠ 69) (ht : TabG 27 32 o3) (G : AllBare s.gens)
    (hx : (x, accObj 99 dx vs n) ∈ news) (hdx : (dx, accD w.params t1 t2) ∈ news) (hps : DatAll news vs (cps.map pieceD)) (hz : cps.length ≤ 100) (hcl : ∀ c ∈ cps, c.length ≤ 1)
    (hd : dp + 20 < recursionLimit) (hu : un + 200 < cLine)
    (hret : ∀ (t : Tok) (o3' : PySem.Obj) h' tk' gs' dr', AllBare gs' → Fr h₀ L h' m → News h₀ L h' ((69, o3') :: news) → TabG 27 32 o3' → Q (.str (PySem.Txt.join "" (cps.map pieceT)) t) { heap := h', gens := gs', drawn := dr', toks := tk', os := s.os }) :
    wpAny (model PG w) (ktrTop dp un gd cn cs L a ccd cl outer) (call (.type "str") [.ref x]) Q E s := by
  have X' := X.keeps F.keep
  have I : InstAt s.heap x (accObj 99 dx vs n) 99 (some (accD w.params t1 t2)) := ⟨(N _ (.tail _ hx)).1, rfl, rfl, (N _ (.tail _ hdx)).1⟩
  k_dflt (refine kso_call ?u X' I fd_str ?f ?_)
  case u => ktr_units
  case f => k_is
  exact str_spec (dp := dp) (un := un + 1 + 1) (gd := gd) (cn := cn) (a := a) (ccd := ccd) (cl := cl) (Q := StrBack Q) B F X N T hk C3 hn69 ht G hx hdx hps hz hcl (by lia) (by lia) hret
end
end
theorem kw_E0a : True := (by k_with_none; w_top off; exact trivial)
section
open PySem PySem.W PyProof.Rows
open Lean Elab Tactic Meta
/-- a body walked in two parts -/
theorem cut_wp {M : Model} {env : Env} {Γ : Ctx} {Q : Flow → Shared → Prop} {E : PySem.Value → Shared → Prop} (Inv : Shared → Prop) :
    ∀ (k : Nat) (body : List Stmt) (p : Pos) (s : Shared),
      (∀ s' p', Inv s' → Sem.wp M Γ (execs (body.drop k) env) (fun a _ s' => Q a s') (fun e _ s' => E e s') p' s') →
      Sem.wp M Γ (execs (body.take k) env) (fun fl _ s' => match fl with | .next => Inv s' | f => Q f s') (fun e _ s' => E e s') p s →
      Sem.wp M Γ (execs body env) (fun a _ s' => Q a s') (fun e _ s' => E e s') p s
  | 0, body, p, s, h2, h1 => h2 s p h1
  | k + 1, [], p, s, h2, h1 => by
    simp only [List.drop_nil] at h2
    exact h2 s p h1
  | k + 1, st :: rest, p, s, h2, h1 => by
    simp only [List.take_succ_cons, List.drop_succ_cons] at h1 h2
    rw [execs_cons, Sem.wp_bind'] at h1 ⊢
    refine Sem.wp_mono M Γ _ (fun fl p' s' h => ?_) (fun _ _ _ h => h) _ _ h1
    cases fl with
    | next => exact cut_wp Inv k rest p' s' h2 h
    | _ => exact h
theorem cut {M : Model} {A : Around} {body : List Stmt} {env : Env} {Q : Flow → Shared → Prop} {E : PySem.Value → Shared → Prop} {s : Shared} (k : Nat) (Inv : Shared → Prop)
    (h1 : wpAny M A (execs (body.take k) env) (fun fl s' => match fl with | .next => Inv s' | f => Q f s') E s) (h2 : ∀ s', Inv s' → wpAny M A (execs (body.drop k) env) Q E s') : wpAny M A (execs body env) Q E s :=
  fun Γ p hΓ => cut_wp Inv k body p s (fun s' p' hi => h2 s' hi Γ p' hΓ) (h1 Γ p hΓ)
theorem fr_known {h₀ h : Heap} {L : Addr} {m : PySem.Str → Option PySem.Value} {x : PySem.Str} {v : PySem.Value} (e : m x = some v) (F : Fr h₀ L h m) : Fr h₀ L h (fun y => if y = x then some v else m y) := by
  have : (fun y => if y = x then some v else m y) = m := by
    funext y
    by_cases hy : y = x
    · subst hy; simp [e]
    · simp [hy]
  rw [this]; exact F
end
theorem kw_E0b : True := (by k_with_none; w_top off; exact trivial)
section
open PySem PySem.W PyProof.Rows
open Lean Elab Tactic Meta
section
variable {prog : PySem.Program} {w : World} {A : Around} {E : PySem.Value → Shared → Prop} {s : Shared} {env : Env} {h₀ : Heap} {L : Addr}
noncomputable def DrawnEnd (h₀ : Heap) (L dl : Addr) (nm : PySem.Str) (R : List (Addr × PySem.Obj)) (s s' : Shared) : Prop :=
  ∃ (h' : Heap) (tk' : Nat) (vs' : List PySem.Value) (e' : Nat) (ns' : List Int) (m' : PySem.Str → Option PySem.Value), s' = { s with heap := h', toks := tk' } ∧ Fr h₀ L h' m' ∧ News h₀ L h' ((dl, listOf vs'.toArray e') :: R) ∧ IntsAre vs' ns' ∧ ns'.length = 5 ∧ (∀ d ∈ ns', 0 ≤ d) ∧ m' nm = some (.ref dl)
theorem drawn_loop {as : List Int} {xv : PySem.Value} {m : PySem.Str → Option PySem.Value} {dl : Addr} {vs0 : List PySem.Value} {e0 : Nat} {ns0 : List Int} {REST : List (Addr × PySem.Obj)} {xi xc nm : PySem.Str} {body : List Stmt} {Q : Flow → Shared → Prop}
    (hP : PairSrcL prog w A E h₀ env.locals ItemKind.int as xv s m ((dl, listOf vs0.toArray e0) :: REST)) (hi0 : IntsAre vs0 ns0) (h50 : ns0.length = 5) (h00 : ∀ d ∈ ns0, 0 ≤ d) (hm : m nm = some (.ref dl)) (hxi : xi ≠ nm) (hxc : xc ≠ nm)
    (turn : ∀ (i : Nat) (a : Int) t ta vs e ns (u : PySem.Str → Option PySem.Value) h tk own, IntsAre vs ns → ns.length = 5 → (∀ d ∈ ns, 0 ≤ d) → (∀ p ∈ own, p.1 ≠ dl) →
      Fr h₀ env.locals h (fun y => if y = xc then some (.int a ta) else if y = xi then some (.int i t) else if y = nm then some (.ref dl) else u y) → News h₀ env.locals h ((dl, listOf vs.toArray e) :: (REST ++ own)) →
      wpAny (model prog w) A (execs body env) (fun fl s' => match fl with | .next => DrawnEnd h₀ env.locals dl nm (REST ++ own) s s' | _ => False) E { s with heap := h, toks := tk })
    (done : ∀ vs e ns (u : PySem.Str → Option PySem.Value) h tk, IntsAre vs ns → ns.length = 5 → (∀ d ∈ ns, 0 ≤ d) → Fr h₀ env.locals h (fun y => if y = nm then some (.ref dl) else u y) → News h₀ env.locals h ((dl, listOf vs.toArray e) :: REST) → Q .next { s with heap := h, toks := tk }) :
    wpAny (model prog w) A (pyIter xv) (fun it s₂ => PairAt3 prog w A h₀ env xi xc body Q E it s₂) E s := by
  refine PairSrcL.at hP env rfl xi xc body Q (fun _ m₁ n₁ => ∃ (vs : List PySem.Value) (e : Nat) (ns : List Int), n₁ = (dl, listOf vs.toArray e) :: REST ∧ IntsAre vs ns ∧ ns.length = 5 ∧ (∀ d ∈ ns, 0 ≤ d) ∧ m₁ nm = some (.ref dl)) ⟨vs0, e0, ns0, rfl, hi0, h50, h00, hm⟩ ?_ ?_
  · rintro i a t v m₁ news₁ s₁ own ⟨h, tk, rfl⟩ ha hv ⟨vs, e, ns, rfl, hi, h5, h0, hm₁⟩ hadr hown F N
    obtain ⟨ta, rfl⟩ := ItemKind.int_is hv
    have em : (fun y => if y = xc then some (Value.int a ta) else if y = xi then some (.int i t) else m₁ y) = (fun y => if y = xc then some (Value.int a ta) else if y = xi then some (.int i t) else if y = nm then some (.ref dl) else m₁ y) := by
      funext y
      by_cases h1 : y = xc
      · simp [h1]
      · by_cases h2 : y = xi
        · simp [h1, h2]
        · by_cases h3 : y = nm
          · subst h3; simp [h1, h2, hm₁]
          · simp [h1, h2, h3]
    rw [em] at F
    refine wpAny_mono (turn i a t ta vs e ns m₁ h tk own hi h5 h0 (fun p hp => hown p hp (dl, _) (.head _)) F (fun p hp => N p ?_)) (fun fl s' hs => ?_) fun _ _ e => e
    · simp only [List.mem_cons, List.mem_append] at hp ⊢
      rcases hp with hp | hp | hp <;> simp [hp]
    · cases fl with
      | next =>
        obtain ⟨h', tk', vs', e', ns', m', rfl, F', N', hi', h5', h0', hm'⟩ := hs
        refine ⟨rfl, h', tk', m', (dl, listOf vs'.toArray e') :: REST, rfl, F', fun p hp => N' p ?_, rfl, vs', e', ns', rfl, hi', h5', h0', hm'⟩
        simp only [List.mem_cons, List.mem_append] at hp ⊢
        rcases hp with hp | hp | hp <;> simp [hp]
      | _ => exact hs.elim
  · rintro h' tk m' news' F N hadr ⟨vs, e, ns, rfl, hi, h5, h0, hm'⟩
    exact done vs e ns m' h' tk hi h5 h0 (fr_known hm' F) N
end
end
theorem kw_E0c : True := (by k_with_none; w_top off; exact trivial)
section
open PySem PySem.W PyProof.Rows
open Lean Elab Tactic Meta
theorem drawn_end {h₀ h' : Heap} {L dl : Addr} {nm : PySem.Str} {R all : List (Addr × PySem.Obj)} {s : Shared} {tk' : Nat} {vs' : List PySem.Value} {e' : Nat} {ns : List Int} {k : Nat} {r : Int} {m' : PySem.Str → Option PySem.Value}
    (F : Fr h₀ L h' m') (N : News h₀ L h' all) (hall : all = (dl, listOf vs'.toArray e') :: R) (hi : IntsAre vs' (ns.set k (ns.getD k 0 + r))) (h5 : ns.length = 5) (h0 : ∀ d ∈ ns, 0 ≤ d) (hr : 0 ≤ r) (hm : m' nm = some (.ref dl)) :
    DrawnEnd h₀ L dl nm R s { s with heap := h', toks := tk' } := by
  subst hall
  refine ⟨h', tk', vs', e', _, m', rfl, F, N, hi, by rw [List.length_set]; exact h5, fun d hd => ?_, hm⟩
  rcases List.mem_or_eq_of_mem_set hd with h1 | h1
  · exact h0 d h1
  · have hg : 0 ≤ ns.getD k 0 := by
      by_cases hl : k < ns.length
      · rw [List.getD_eq_getElem?_getD, List.getElem?_eq_getElem hl]; exact h0 _ (List.getElem_mem _)
      · rw [List.getD_eq_getElem?_getD, List.getElem?_eq_none (by lia)]; exact Int.le_refl _
    rw [h1]; lia
/-- behind votes, way and late -/
noncomputable def Inv1 (h₀ : Heap) (L : Addr) (s s' : Shared) : Prop :=
  ∀ C : Shared → Prop, (∀ (h : Heap) (tk : Nat) (u : PySem.Str → Option PySem.Value) (vl : Addr) (v0 v1 v2 v3 way late : Int) (t0 t1 t2 t3 tl tw : Tok) (e : Nat) (ot os ow : PySem.Obj) (ct cz : Option PySem.Value), (Fr h₀ L h (fun y => if y = Str.ofString "late" then some (.int late tl) else if y = Str.ofString "votes" then some (.ref vl) else u y)) → (News h₀ L h [(vl, listOf #[.int v0 t0, .int v1 t1, .int v2 t2, .int v3 t3] e), (L + 1 + 1 + 1, ot), (L + 1 + 1, os), (L + 1, ow), (126, tabObj #[]), (119, tabObj #[]), (69, tabObj #[])]) → (ow.data = .cell (some (.int way tw))) → (ot.data = .cell ct) → (os.data = .cell cz) → ((1 ≤ v0 ∧ v0 ≤ 6)) → ((1 ≤ v1 ∧ v1 ≤ 6)) → ((1 ≤ v2 ∧ v2 ≤ 6)) → ((1 ≤ v3 ∧ v3 ≤ 6)) → ((0 ≤ way ∧ way < 3)) → ((0 ≤ late ∧ late < 2)) → ((vl ≠ L + 1 ∧ vl ≠ L + 1 + 1 ∧ vl ≠ L + 1 + 1 + 1 ∧ vl ≠ 126 ∧ vl ≠ 119 ∧ vl ≠ 69 ∧ @LT.lt Nat _ 126 L)) → C { s with heap := h, toks := tk }) → C s'
theorem vote_rng (k : Int) : 1 ≤ k.fmod 6 + 1 ∧ k.fmod 6 + 1 ≤ 6 := by
  have h1 : 0 ≤ k.fmod 6 := Int.fmod_nonneg_of_pos _ (by decide)
  have h2 : k.fmod 6 < 6 := Int.fmod_lt_of_pos _ (by decide)
  lia
theorem four_of {ys : List PySem.Value} {ns : List Int} {f : Int → Int} (h : IntsAre ys (List.map f (List.take 4 ns))) (h5 : ns.length = 5) :
    ∃ a b c d t0 t1 t2 t3, ys = [.int (f a) t0, .int (f b) t1, .int (f c) t2, .int (f d) t3] := by
  match ns, h5 with
  | [a, b, c, d, e], _ =>
    simp only [List.take, List.map] at h
    cases h with
    | cons _ t0 h => cases h with
      | cons _ t1 h => cases h with
        | cons _ t2 h => cases h with
          | cons _ t3 h => cases h; exact ⟨a, b, c, d, t0, t1, t2, t3, rfl⟩
theorem inv1_of {h₀ h : Heap} {L : Addr} {s : Shared} {tk : Nat} {u : PySem.Str → Option PySem.Value} {vl sl dl : Addr} {ys : List PySem.Value} {ns : List Int} {d : Int} {tl tw : Tok} {e : Nat} {o1 o2 ot os ow : PySem.Obj} {ct cz : Option PySem.Value}
    (F : Fr h₀ L h (fun y => if y = Str.ofString "late" then some (.int ((d.fdiv 3).fmod 2) tl) else if y = Str.ofString "votes" then some (.ref vl) else u y))
    (N : News h₀ L h [(vl, listOf ys.toArray e), (sl, o1), (dl, o2), (L + 1 + 1 + 1, ot), (L + 1 + 1, os), (L + 1, ow), (126, tabObj #[]), (119, tabObj #[]), (69, tabObj #[])])
    (hw : ow.data = .cell (some (.int (d.fmod 3) tw))) (ht : ot.data = .cell ct) (hz : os.data = .cell cz) (hi : IntsAre ys (List.map (fun k => k.fmod 6 + 1) (List.take 4 ns))) (h5 : ns.length = 5)
    (o : sl ≠ vl ∧ dl ≠ vl ∧ L + 1 + 1 + 1 ≠ vl ∧ L + 1 + 1 ≠ vl ∧ L + 1 ≠ vl ∧ 126 ≠ vl ∧ 119 ≠ vl ∧ 69 ≠ vl) (l0 : @LT.lt Nat _ 126 L) : Inv1 h₀ L s { s with heap := h, toks := tk } := by
  obtain ⟨a, b, c, d', t0, t1, t2, t3, rfl⟩ := four_of hi h5
  refine fun C k => k h tk u vl _ _ _ _ _ _ t0 t1 t2 t3 tl tw e ot os ow ct cz F (fun p hp => N p ?_) hw ht hz (vote_rng a) (vote_rng b) (vote_rng c) (vote_rng d') ⟨Int.fmod_nonneg_of_pos _ (by decide), Int.fmod_lt_of_pos _ (by decide)⟩ ⟨Int.fmod_nonneg_of_pos _ (by decide), Int.fmod_lt_of_pos _ (by decide)⟩ ⟨Ne.symm o.2.2.2.2.1, Ne.symm o.2.2.2.1, Ne.symm o.2.2.1, Ne.symm o.2.2.2.2.2.1, Ne.symm o.2.2.2.2.2.2.1, Ne.symm o.2.2.2.2.2.2.2, l0⟩
  simp only [List.mem_cons, List.not_mem_nil, or_false] at hp ⊢
  rcases hp with h | h | h | h | h | h | h <;> simp [h]
theorem rng_nil : ∀ r ∈ ([] : List Int), 0 ≤ r ∧ r ≤ 12 := fun _ h => nomatch h
theorem rng_cons {a : Int} {l : List Int} (h : 0 ≤ a ∧ a ≤ 12) (hl : ∀ r ∈ l, 0 ≤ r ∧ r ≤ 12) : ∀ r ∈ a :: l, 0 ≤ r ∧ r ≤ 12 := fun r hr => by
  rcases List.mem_cons.mp hr with rfl | hr
  · exact h
  · exact hl r hr
end
theorem kw_E0d : True := (by k_with_none; w_top off; exact trivial)
section
open PySem PySem.W PyProof.Rows
open Lean Elab Tactic Meta
section
variable {prog : PySem.Program} {w : World} {A : Around} {E : PySem.Value → Shared → Prop} {s : Shared} {h₀ : Heap} {L : Addr} {m : PySem.Str → Option PySem.Value} {news : List (Addr × PySem.Obj)}
theorem news_swap {h : Heap} {a b : List (Addr × PySem.Obj)} (N : News h₀ L h (a ++ b)) : News h₀ L h (b ++ a) := fun p hp => N p ((List.mem_append.mp hp).elim (fun h => List.mem_append.mpr (.inr h)) fun h => List.mem_append.mpr (.inl h))
theorem slice_from {value slice : PySem.Expr} {l : Addr} {vs : List PySem.Value} {ns : List Int} {e : Nat} {k : Int} {t : Tok} {Q : PySem.Value → Shared → Prop} (F : Fr h₀ L s.heap m) (N : News h₀ L s.heap news) (hm : (l, listOf vs.toArray e) ∈ news) (hi : IntsAre vs ns) (h0 : 0 ≤ k) (hk : k ≤ ns.length) (hz : ns.length ≤ 1000)
    (h : ∀ D ws h', Fr h₀ L h' m → News h₀ L h' ((D, listOf (List.toArray ws) 0) :: news) → (∀ p ∈ news, p.1 < D) → IntsAre ws (ns.drop k.toNat) → Q (.ref D) { s with heap := h' })
    (hs : subscripted slice false (.ref l) (.ref s.heap.objs.size) = operate [.ref s.heap.objs.size, .ref l] (getItem (.ref l) (.ref s.heap.objs.size))) (ht : ∀ r, letTemporaryGo value (.ref l) r = pure ()) :
    wpAny (model prog w) A (subscriptTail value slice (.ref l) (.ref s.heap.objs.size)) Q E { s with heap := s.heap.push { cls := .type "slice", data := .fields #[.int k t, .none, .none] } } :=
  slice_list F N (News.isList N hm) (.int k t) .none (fun h' F' N' => h _ _ h' F' (show News h₀ L h' ((_, listOf (List.toArray (PySem.slicePick vs.toArray (some k) none none).toList) 0) :: news) from N') (fun p hp => Nat.lt_succ_of_lt (Heap.lt_size (N p hp).1)) (slice_ints_from hi h0 hk)) hs ht (by rw [List.size_toArray, hi.length, sizeLine_eq]; lia)
theorem add_two {l b : Addr} {vs ws : List PySem.Value} {ns ms : List Int} {e e' : Nat} {Q : PySem.Value → Shared → Prop} (F : Fr h₀ L s.heap m) (N : News h₀ L s.heap news) (hm : (l, listOf vs.toArray e) ∈ news) (hb : (b, listOf ws.toArray e') ∈ news) (hi : IntsAre vs ns) (hj : IntsAre ws ms) (hz : ns.length + ms.length ≤ 1000)
    (h : ∀ D h', Fr h₀ L h' m → News h₀ L h' ((D, listOf (vs ++ ws).toArray 0) :: news) → (∀ p ∈ news, p.1 < D) → IntsAre (vs ++ ws) (ns ++ ms) → Q (.ref D) { s with heap := h' }) :
    wpAny (model prog w) A (binaryOp .Add (.ref l) (.ref b)) Q E s :=
  add_lists_ints F N (News.isList N hm) (News.isList N hb) hi hj (fun h' F' N' hI => h _ h' F' N' (fun p hp => Heap.lt_size (N p hp).1) hI) (by rw [sizeLine_eq]; lia)
end
end
theorem kw_E0e : True := (by k_with_none; w_top off; exact trivial)
section
open PySem PySem.W PyProof.Rows
open Lean Elab Tactic Meta
section
variable {prog : PySem.Program} {w : World} {A : Around} {E : PySem.Value → Shared → Prop} {s : Shared} {h₀ : Heap} {L : Addr} {m : PySem.Str → Option PySem.Value} {news : List (Addr × PySem.Obj)}
theorem ws_len {P : PySem.Params} {x : Addr} {ns : List Int} {nt : Int} (h : WsAt P news x ns nt) : ns.length ≤ 20 := by
  obtain ⟨dx, nr, cr, vs, t1, t2, t3, t4, t5, tn, tb, raw, n, simple, e1, e2, h1, h2, h3, h4, h5, h6⟩ := h
  exact h6
theorem fd_wit (P : PySem.Params) : findIn (hd0.heap_1 P) (.ref 207) (PySem.Str.ofString "not_equal_witness") = some (some (.ref 190)) := by kernel_rfl
theorem fd_ind (P : PySem.Params) : findIn (hd0.heap_1 P) (.ref 207) (PySem.Str.ofString "indent_level") = some (some (.ref 176)) := by kernel_rfl
theorem pg_wit (P : PySem.Params) : plainGet (hd0.heap_1 P) 207 (PySem.Str.ofString "not_equal_witness") = true := by kernel_rfl
theorem pg_ind (P : PySem.Params) : plainGet (hd0.heap_1 P) 207 (PySem.Str.ofString "indent_level") = true := by kernel_rfl
theorem fn_wit (P : PySem.Params) : isFn (hd0.heap_1 P) (.ref 190) = true := by kernel_rfl
theorem fn_ind (P : PySem.Params) : isFn (hd0.heap_1 P) (.ref 176) = true := by kernel_rfl
theorem gl_wit (P : PySem.Params) (t1 t2 t3 t4 t5 : Tok) (raw n nt norm simple : PySem.Value) : getL (PySem.Str.ofString "not_equal_witness") (wsEs P t1 t2 t3 t4 t5 raw n nt norm simple) = some none := by
  first | rfl | (unfold wsEs; k_get)
theorem gl_ind (P : PySem.Params) (t1 t2 t3 t4 t5 : Tok) (raw n nt norm simple : PySem.Value) : getL (PySem.Str.ofString "indent_level") (wsEs P t1 t2 t3 t4 t5 raw n nt norm simple) = some none := by
  first | rfl | (unfold wsEs; k_get)
theorem ws_witness {x : Addr} {ns : List Int} {nt : Int} {ta : List (Addr × PySem.Obj)} {pl : Sem Bool} {Q : PySem.Value × List PySem.Value → Shared → Prop} (F : Fr h₀ L s.heap m) (X : (hd0.heap_1 w.params).In h₀) (N : News h₀ L s.heap news)
    (W : WsAt w.params ta x ns nt) (hs : ∀ p ∈ ta, p ∈ news) (h : Q (.ref 190, [.ref x]) s) : wpAny (model prog w) A (getMethod (.ref x) (PySem.Str.ofString "not_equal_witness") pl) Q E s := by
  obtain ⟨dx, nr, cr, vs, t1, t2, t3, t4, t5, tn, tb, raw, n, simple, e1, e2, h1, h2, h3, h4, h5, h6⟩ := W
  exact method_inst F X (InstAt.of_news N (hs _ h1) (hs _ h2)) (pg_wit _) (fd_wit _) (fn_wit _) (gl_wit _ _ _ _ _ _ _ _ _ _ _) h
theorem ws_indent {x : Addr} {ns : List Int} {nt : Int} {ta : List (Addr × PySem.Obj)} {pl : Sem Bool} {Q : PySem.Value × List PySem.Value → Shared → Prop} (F : Fr h₀ L s.heap m) (X : (hd0.heap_1 w.params).In h₀) (N : News h₀ L s.heap news)
    (W : WsAt w.params ta x ns nt) (hs : ∀ p ∈ ta, p ∈ news) (h : Q (.ref 176, [.ref x]) s) : wpAny (model prog w) A (getMethod (.ref x) (PySem.Str.ofString "indent_level") pl) Q E s := by
  obtain ⟨dx, nr, cr, vs, t1, t2, t3, t4, t5, tn, tb, raw, n, simple, e1, e2, h1, h2, h3, h4, h5, h6⟩ := W
  exact method_inst F X (InstAt.of_news N (hs _ h1) (hs _ h2)) (pg_ind _) (fd_ind _) (fn_ind _) (gl_ind _ _ _ _ _ _ _ _ _ _ _) h
end
end
theorem kw_P3 : True := (by k_with_none; w_top off; exact trivial)
section
open PySem PySem.W PyProof.Rows
noncomputable def sumA (ns : List Int) (k : Int) (N : Nat) : Int := ((List.range N).map (fun i : Nat => (i : Int).fdiv k * ns.getD i 0)).sum
theorem sumA_succ (ns : List Int) (k : Int) (N : Nat) : sumA ns k (N + 1) = sumA ns k N + (N : Int).fdiv k * ns.getD N 0 := by
  unfold sumA; rw [List.range_succ, List.map_append, List.sum_append]; simp
theorem sumA_nil (k : Int) (N : Nat) : sumA [] k N = 0 := by
  induction N with
  | zero => rfl
  | succ N ih => rw [sumA_succ, ih]; simp
theorem sumA_low (ns : List Int) {k : Nat} : ∀ N, N ≤ k → sumA ns k N = 0 := by
  intro N
  induction N with
  | zero => intro _; rfl
  | succ N ih =>
    intro h
    rw [sumA_succ, ih (by lia)]
    have : (N : Int).fdiv k = 0 := by
      rw [Int.fdiv_eq_ediv_of_nonneg _ (by lia)]; exact Int.ediv_eq_zero_of_lt (by lia) (by lia)
    rw [this]; simp
theorem sumA_ext (ns : List Int) (k : Int) : ∀ d, sumA ns k (ns.length + d) = sumA ns k ns.length := by
  intro d
  induction d with
  | zero => rfl
  | succ d ih =>
    rw [← Nat.add_assoc, sumA_succ, ih]
    have : ns.getD (ns.length + d) 0 = 0 := by simp [List.getD]
    rw [this]; simp
theorem range_sum (ns : List Int) (k : Nat) : ∀ n, ((rangeKs k n).map (fun i : Int => i.fdiv k * ns.getD i.toNat 0)).sum = sumA ns k (k + n) := by
  intro n
  induction n with
  | zero => rw [Nat.add_zero, sumA_low ns k (Nat.le_refl _)]; rfl
  | succ n ih =>
    have e : rangeKs k (n + 1) = rangeKs k n ++ [(k : Int) + n] := by
      unfold rangeKs; rw [List.range_succ, List.map_append]; rfl
    rw [e, List.map_append, List.sum_append, ih, ← Nat.add_assoc, sumA_succ]
    have e2 : ((k : Int) + n).toNat = k + n := by lia
    simp [e2]
theorem ilOf_sum (ns : List Int) {k : Nat} {N : Nat} (hN : ns.length ≤ N) : ilOf ns k = sumA ns k N := by
  obtain ⟨d, rfl⟩ := Nat.exists_eq_add_of_le hN
  rw [sumA_ext]
  unfold ilOf
  rw [range_sum]
  rcases Nat.lt_or_ge k ns.length with h | h
  · have : k + ((ns.length : Int) - k).toNat = ns.length := by lia
    rw [this]
  · have : k + ((ns.length : Int) - k).toNat = k := by lia
    rw [this, sumA_low _ _ (Nat.le_refl _), sumA_low _ _ h]
theorem bump_getD (ns : List Int) (b i : Nat) : (bump ns b).getD i 0 = ns.getD i 0 + if i = b then 1 else 0 := by
  unfold bump
  simp only [List.getD_eq_getElem?_getD]
  by_cases hb : ns.length ≤ b
  · simp only [hb, if_true]
    by_cases hi : i = b
    · subst hi
      have h2 : i < (ns ++ List.replicate (i - ns.length + 1) (0 : Int)).length := by rw [List.length_append, List.length_replicate]; lia
      rw [List.getElem?_set_self h2]
      have h3 : (ns ++ List.replicate (i - ns.length + 1) (0 : Int))[i]? = some 0 := by
        rw [List.getElem?_append_right hb, List.getElem?_replicate, if_pos (by lia)]
      rw [h3]
      simp [hb]
    · rw [List.getElem?_set_ne (by lia)]
      simp only [hi, if_false, List.getElem?_append]
      by_cases hl : i < ns.length
      · simp [hl]
      · simp [hl, List.getElem?_replicate]
        split <;> rfl
  · simp only [hb, if_false]
    by_cases hi : i = b
    · subst hi
      have : i < ns.length := by lia
      simp [this]
    · rw [List.getElem?_set_ne (by lia)]
      simp [hi]
theorem sumA_bump (ns : List Int) (k : Int) (b : Nat) : ∀ N, sumA (bump ns b) k N = sumA ns k N + if b < N then (b : Int).fdiv k else 0 := by
  intro N
  induction N with
  | zero => simp [sumA]
  | succ N ih =>
    rw [sumA_succ, sumA_succ, ih, bump_getD, Int.mul_add]
    by_cases h : N = b
    · subst h; simp; lia
    · rw [if_neg h]
      by_cases h2 : b < N
      · rw [if_pos h2, if_pos (by lia)]; lia
      · rw [if_neg h2, if_neg (by lia)]; lia
theorem sumA_fold (k : Int) (N : Nat) : ∀ (rs ns : List Int), (∀ r ∈ rs, 0 ≤ r ∧ r.toNat < N) → sumA (rs.foldl (fun ns r => bump ns r.toNat) ns) k N = sumA ns k N + (rs.map (fun r : Int => r.fdiv k)).sum := by
  intro rs
  induction rs with
  | nil => intro ns _; simp
  | cons r rs ih =>
    intro ns h
    rw [List.foldl_cons, ih _ fun x hx => h x (.tail _ hx), sumA_bump, if_pos (h r (.head _)).2, List.map_cons, List.sum_cons]
    have : ((r.toNat : Nat) : Int) = r := Int.toNat_of_nonneg (h r (.head _)).1
    rw [this]; lia
theorem histL_flen : ∀ (rs ns : List Int), ns.length ≤ (rs.foldl (fun ns r => bump ns r.toNat) ns).length ∧ ∀ r ∈ rs, r.toNat < (rs.foldl (fun ns r => bump ns r.toNat) ns).length := by
  intro rs
  induction rs with
  | nil => intro ns; exact ⟨Nat.le_refl _, fun _ h => nomatch h⟩
  | cons r rs ih =>
    intro ns
    have := ih (bump ns r.toNat)
    rw [bump_length] at this
    refine ⟨by rw [List.foldl_cons]; lia, fun x hx => ?_⟩
    rw [List.foldl_cons]
    rcases List.mem_cons.mp hx with h | h
    · subst h; lia
    · exact this.2 _ h
theorem ilOf_hist {rs : List Int} (h : ∀ r ∈ rs, 0 ≤ r) {k : Int} (hk : 1 ≤ k) : ilOf (histL rs) k = (rs.map (fun r : Int => r.fdiv k)).sum := by
  have e : k = ((k.toNat : Nat) : Int) := by lia
  rw [e, ilOf_sum (histL rs) (Nat.le_refl _)]
  unfold histL
  rw [sumA_fold _ _ _ _ fun r hr => ⟨h r hr, (histL_flen rs []).2 r hr⟩, sumA_nil, Int.zero_add]
theorem ilOf_nil (k : Int) : ilOf [] k = 0 := by
  unfold ilOf
  have : rangeKs k ((([] : List Int).length : Int) - k).toNat = rangeKs k (-k).toNat := by simp
  rw [this]
  have : ∀ l : List Int, (l.map (fun i : Int => i.fdiv k * ([] : List Int).getD i.toNat 0)).sum = 0 := by
    intro l; induction l with
    | nil => rfl
    | cons a l ih => rw [List.map_cons, List.sum_cons, ih]; simp
  exact this _
theorem hist4_len (a b c d : Int) : (histL [a, b, c, d]).length = max (max (max (max 0 (a.toNat + 1)) (b.toNat + 1)) (c.toNat + 1)) (d.toNat + 1) := by
  unfold histL
  simp only [List.foldl_cons, List.foldl_nil, bump_length, List.length_nil]
theorem add_fdiv {a b k : Int} (hk : 1 ≤ k) : (a + b).fdiv k = a.fdiv k + b.fdiv k + if a.fmod k + b.fmod k < k then 0 else 1 := by
  have ha := Int.fmod_add_mul_fdiv a k
  have hb := Int.fmod_add_mul_fdiv b k
  have hab := Int.fmod_add_mul_fdiv (a + b) k
  have h1 := Int.fmod_nonneg_of_pos a (b := k) (by omega)
  have h2 := Int.fmod_lt_of_pos a (b := k) (by omega)
  have h3 := Int.fmod_nonneg_of_pos b (b := k) (by omega)
  have h4 := Int.fmod_lt_of_pos b (b := k) (by omega)
  have h5 := Int.fmod_nonneg_of_pos (a + b) (b := k) (by omega)
  have h6 := Int.fmod_lt_of_pos (a + b) (b := k) (by omega)
  generalize ex : a.fmod k = x at *
  generalize ey : b.fmod k = y at *
  generalize ez : (a + b).fmod k = z at *
  generalize ep : a.fdiv k = p at *
  generalize eq : b.fdiv k = q at *
  generalize er : (a + b).fdiv k = r at *
  have h7 : z - x - y = k * (p + q - r) := by rw [Int.mul_sub, Int.mul_add]; omega
  split
  · have : p + q - r = 0 := by
      rcases Int.lt_trichotomy (p + q - r) 0 with h | h | h
      · have : k * (p + q - r) ≤ k * (-1) := Int.mul_le_mul_of_nonneg_left (by omega) (by omega)
        omega
      · exact h
      · have : k * 1 ≤ k * (p + q - r) := Int.mul_le_mul_of_nonneg_left (by omega) (by omega)
        omega
    omega
  · have : p + q - r = -1 := by
      rcases Int.lt_trichotomy (p + q - r) (-1) with h | h | h
      · have : k * (p + q - r) ≤ k * (-2) := Int.mul_le_mul_of_nonneg_left (by omega) (by omega)
        omega
      · exact h
      · have : k * 0 ≤ k * (p + q - r) := Int.mul_le_mul_of_nonneg_left (by omega) (by omega)
        omega
    omega
theorem filterMap_ext {α β : Type} {f g : α → Option β} {l : List α} (h : ∀ x ∈ l, f x = g x) : l.filterMap f = l.filterMap g := by
  induction l with
  | nil => rfl
  | cons a l ih => rw [List.filterMap_cons, List.filterMap_cons, h a (.head _), ih fun x hx => h x (.tail _ hx)]
theorem el_nat (a b c d : Nat) : max (max (max (max (max 0 (a + 1)) (b + 1)) (c + 1)) (d + 1) - 1) (max (max (max (max 0 (a + b + 1)) (0 + 1)) (c + 1)) (d + 1) - 1) + 1 = max (a + b) (max c d) + 1 := by
  have h1 : max a b ≤ a + b := Nat.max_le.mpr ⟨Nat.le_add_right .., Nat.le_add_left ..⟩
  have e : ∀ x y : Nat, max (x + 1) (y + 1) = max x y + 1 := fun x y => Nat.succ_max_succ x y
  rw [Nat.max_eq_right (Nat.zero_le _), Nat.max_eq_right (Nat.zero_le _), e, e, e, e, e, e, Nat.add_sub_cancel, Nat.add_sub_cancel, Nat.max_eq_left (Nat.zero_le (a + b)), Nat.max_assoc (max a b), Nat.max_assoc (a + b)]
  congr 1
  exact Nat.max_eq_right (Nat.max_le.mpr ⟨Nat.le_trans h1 (Nat.le_max_left ..), Nat.le_max_right ..⟩)
theorem toNat_max (x y : Int) : (max x y).toNat = max x.toNat y.toNat := by
  rcases Int.le_total x y with h | h
  · rw [Int.max_eq_right h, Nat.max_eq_right (Int.toNat_le_toNat h)]
  · rw [Int.max_eq_left h, Nat.max_eq_left (Int.toNat_le_toNat h)]
theorem el_int {v0 v1 v2 v3 : Int} (h0 : 0 ≤ v0) (h1 : 0 ≤ v1) : max (max (max (max (max 0 (v0.toNat + 1)) (v1.toNat + 1)) (v2.toNat + 1)) (v3.toNat + 1) - 1) (max (max (max (max 0 ((v0 + v1).toNat + 1)) ((0 : Int).toNat + 1)) (v2.toNat + 1)) (v3.toNat + 1) - 1) + 1 = (max (v0 + v1) (max v2 v3) + 1).toNat := by
  rw [Int.toNat_add (Int.le_trans (Int.add_nonneg h0 h1) (Int.le_max_left ..)) (by decide), toNat_max, toNat_max, Int.toNat_add h0 h1]
  exact el_nat ..
theorem wit_gain {v0 v1 v2 v3 : Int} (b0 : 1 ≤ v0 ∧ v0 ≤ 6) (b1 : 1 ≤ v1 ∧ v1 ≤ 6) (b2 : 1 ≤ v2 ∧ v2 ≤ 6) (b3 : 1 ≤ v3 ∧ v3 ≤ 6) {ns ms : List Int} {nt mt : Int} (en : ns = histL [v0, v1, v2, v3]) (em : ms = histL [v0 + v1, 0, v2, v3]) (ent : nt = 4) (emt : mt = 4) :
    witOf (max (ns.length - 1) (ms.length - 1) + 1) (lvl ns nt) (lvl ms mt) = gainsOf v0 v1 v2 v3 := by
  subst ent emt
  have el : max (ns.length - 1) (ms.length - 1) + 1 = (max (v0 + v1) (max v2 v3) + 1).toNat := by
    rw [en, em, hist4_len, hist4_len]
    exact el_int (Int.le_trans (by decide) b0.1) (Int.le_trans (by decide) b1.1)
  rw [el]
  unfold witOf gainsOf
  refine filterMap_ext fun k hk => ?_
  have k1 : 1 ≤ k := by
    unfold rangeKs at hk
    obtain ⟨i, _, rfl⟩ := List.mem_map.mp hk
    lia
  have f1 : ilOf ns k = v0.fdiv k + v1.fdiv k + v2.fdiv k + v3.fdiv k := by
    rw [en, ilOf_hist (by intro r hr; simp at hr; lia) k1]
    simp only [List.map_cons, List.map_nil, List.sum_cons, List.sum_nil]; lia
  have f2 : ilOf ms k = (v0 + v1).fdiv k + v2.fdiv k + v3.fdiv k := by
    rw [em, ilOf_hist (by intro r hr; simp at hr; lia) k1]
    simp only [List.map_cons, List.map_nil, List.sum_cons, List.sum_nil, Int.zero_fdiv]; lia
  unfold witF gainF
  simp only [List.map_cons, List.map_nil, List.sum_cons, List.sum_nil, lvl]
  rw [f1, f2, add_fdiv k1]
  by_cases hc : v0.fmod k + v1.fmod k < k
  · rw [if_pos hc, if_pos hc, if_pos (by congr 1; lia)]
  · rw [if_neg hc, if_neg hc]
    generalize v0.fdiv k = a
    generalize v1.fdiv k = b
    generalize v2.fdiv k = c
    generalize v3.fdiv k = d
    have hm0 : k * (a + b + c + d + 4) = k * (a + (b + (c + (d + 0))) + 4) := by congr 1; lia
    have hm : k * (a + b + 1 + c + d + 4) = k * (a + (b + (c + (d + 0))) + 4) + k := by
      rw [show a + b + 1 + c + d + 4 = (a + (b + (c + (d + 0))) + 4) + 1 by lia, Int.mul_add, Int.mul_one]
    rw [hm, hm0, if_neg (by lia)]
end
theorem kw_P4 : True := (by k_with_none; w_top off; exact trivial)
section
open PySem PySem.W PyProof.Rows
/-- the seats of a party with v votes at the divisor k -/
noncomputable def toldI (way v k : Int) : Int := (2 * v + (2 - way) * k).fdiv (2 * k)
noncomputable def seatsI (way v0 v1 v2 v3 k : Int) : Int := toldI way v0 k + toldI way v1 k + toldI way v2 k + toldI way v3 k
theorem fdiv_iff {x k q : Int} (hk : 0 < k) : q ≤ x.fdiv k ↔ q * k ≤ x := by
  rw [Int.fdiv_eq_ediv_of_nonneg _ (by lia)]; exact Int.le_ediv_iff_mul_le hk
theorem told_iff {way v k q : Int} (hk : 1 ≤ k) : q ≤ toldI way v k ↔ q * (2 * k) ≤ 2 * v + (2 - way) * k := fdiv_iff (by lia)
theorem told0 {v k : Int} (hk : 1 ≤ k) : toldI 0 v k = v.fdiv k + 1 := by
  have h : ∀ q, q ≤ toldI 0 v k ↔ q ≤ v.fdiv k + 1 := fun q => by
    rw [told_iff hk]
    have : q ≤ v.fdiv k + 1 ↔ q - 1 ≤ v.fdiv k := by lia
    have e : (q - 1) * k = q * k - k := by rw [Int.sub_mul, Int.one_mul]
    rw [this, fdiv_iff (by lia), e, Int.mul_left_comm]
    lia
  have h1 := (h _).mp (Int.le_refl _)
  have h2 := (h _).mpr (Int.le_refl _)
  lia
theorem told1 {v k : Int} (hk : 1 ≤ k) : toldI 1 v k = (2 * v).fdiv k - v.fdiv k := by
  have ha := Int.fmod_add_mul_fdiv v k
  have h1 := Int.fmod_nonneg_of_pos v (b := k) (by lia)
  have h2 := Int.fmod_lt_of_pos v (b := k) (by lia)
  have h : ∀ q, q ≤ toldI 1 v k ↔ q ≤ (2 * v).fdiv k - v.fdiv k := fun q => by
    rw [told_iff hk]
    have : q ≤ (2 * v).fdiv k - v.fdiv k ↔ q + v.fdiv k ≤ (2 * v).fdiv k := by lia
    rw [this, fdiv_iff (by lia), Int.add_mul, Int.mul_left_comm]
    have e : v.fdiv k * k = v - v.fmod k := by rw [Int.mul_comm]; lia
    rw [e]
    generalize v.fmod k = r at *
    -- 2(qk) ≤ 2v + k ↔ qk ≤ v + r
    constructor
    · intro h
      -- q k - v is  ≡ -r mod k
      rcases Int.lt_or_le (q * k) (v + r + 1) with h3 | h3
      · lia
      · exfalso
        have e2 : v = r + k * v.fdiv k := by lia
        generalize v.fdiv k = d at *
        -- q k ≥ v + r + 1 ; 2 q k ≤ 2 v + k
        have e3 : q * k - k * d = k * (q - d) := by rw [Int.mul_sub, Int.mul_comm q k]
        have e4 : k * (q - d) ≥ 2 * r + 1 := by lia
        have e5 : 2 * (k * (q - d)) ≤ 2 * r + k := by lia
        rcases Int.lt_or_le (q - d) 1 with h6 | h6
        · have : k * (q - d) ≤ k * 0 := Int.mul_le_mul_of_nonneg_left (by lia) (by lia)
          lia
        · have : k * 1 ≤ k * (q - d) := Int.mul_le_mul_of_nonneg_left (by lia) (by lia)
          lia
    · intro h
      have e2 : v = r + k * v.fdiv k := by lia
      generalize v.fdiv k = d at *
      have e3 : q * k - k * d = k * (q - d) := by rw [Int.mul_sub, Int.mul_comm q k]
      have e4 : k * (q - d) ≤ 2 * r := by lia
      rcases Int.lt_or_le (q - d) 1 with h6 | h6
      · have : k * (q - d) ≤ k * 0 := Int.mul_le_mul_of_nonneg_left (by lia) (by lia)
        lia
      · rcases Int.lt_or_le (q - d) 2 with h7 | h7
        · have : q - d = 1 := by lia
          rw [this] at e3 e4; lia
        · have : k * 2 ≤ k * (q - d) := Int.mul_le_mul_of_nonneg_left (by lia) (by lia)
          lia
  have h1 := (h _).mp (Int.le_refl _)
  have h2 := (h _).mpr (Int.le_refl _)
  lia
theorem told2 {v k : Int} (hk : 1 ≤ k) : toldI 2 v k = v.fdiv k := by
  have h : ∀ q, q ≤ toldI 2 v k ↔ q ≤ v.fdiv k := fun q => by
    rw [told_iff hk, fdiv_iff (by lia), Int.mul_left_comm]
    lia
  have h1 := (h _).mp (Int.le_refl _)
  have h2 := (h _).mpr (Int.le_refl _)
  lia
theorem told_nonneg {way v k : Int} (hw : 0 ≤ way ∧ way < 3) (hv : 1 ≤ v) (hk : 1 ≤ k) : 0 ≤ toldI way v k := by
  have : 0 ≤ (2 - way) * k := Int.mul_nonneg (by lia) (by lia)
  exact (told_iff hk).mpr (by lia)
theorem told_le {way v k : Int} (hw : 0 ≤ way ∧ way < 3) (hk : 1 ≤ k) : toldI way v k * k ≤ v + k := by
  have h := (told_iff (way := way) (v := v) (q := toldI way v k) hk).mp (Int.le_refl _)
  have : (2 - way) * k ≤ 2 * k := Int.mul_le_mul_of_nonneg_right (by lia) (by lia)
  rw [Int.mul_left_comm] at h
  lia
theorem hist_lvl {v0 v1 v2 v3 k : Int} (h0 : 0 ≤ v0) (h1 : 0 ≤ v1) (h2 : 0 ≤ v2) (h3 : 0 ≤ v3) (hk : 1 ≤ k) {nt : Int} : lvl (histL [v0, v1, v2, v3]) nt k = k * (v0.fdiv k + v1.fdiv k + v2.fdiv k + v3.fdiv k + nt) := by
  unfold lvl
  rw [ilOf_hist (by intro r hr; simp at hr; lia) hk]
  simp only [List.map_cons, List.map_nil, List.sum_cons, List.sum_nil]
  congr 1; lia
theorem lvl_nil {k nt : Int} : lvl [] nt k = k * nt := by
  unfold lvl; rw [ilOf_nil, Int.zero_add]
theorem mul_sub_eq {k a b c : Int} (h : a - b = c) : k * a - k * b = k * c := by rw [← Int.mul_sub, h]
theorem lead0 {v0 v1 v2 v3 k : Int} (h0 : 1 ≤ v0) (h1 : 1 ≤ v1) (h2 : 1 ≤ v2) (h3 : 1 ≤ v3) (hk : 1 ≤ k) : lvl (histL [v0, v1, v2, v3]) 4 k - lvl (histL []) 0 k = k * seatsI 0 v0 v1 v2 v3 k := by
  have e : histL [] = [] := rfl
  rw [hist_lvl (by lia) (by lia) (by lia) (by lia) hk, e, lvl_nil]
  unfold seatsI
  rw [told0 hk, told0 hk, told0 hk, told0 hk]
  exact mul_sub_eq (by lia)
theorem lead1 {v0 v1 v2 v3 k : Int} (h0 : 1 ≤ v0) (h1 : 1 ≤ v1) (h2 : 1 ≤ v2) (h3 : 1 ≤ v3) (hk : 1 ≤ k) : lvl (histL [2 * v0, 2 * v1, 2 * v2, 2 * v3]) 4 k - lvl (histL [v0, v1, v2, v3]) 4 k = k * seatsI 1 v0 v1 v2 v3 k := by
  rw [hist_lvl (by lia) (by lia) (by lia) (by lia) hk, hist_lvl (by lia) (by lia) (by lia) (by lia) hk]
  unfold seatsI
  rw [told1 hk, told1 hk, told1 hk, told1 hk]
  exact mul_sub_eq (by lia)
theorem lead2 {v0 v1 v2 v3 k : Int} (h0 : 1 ≤ v0) (h1 : 1 ≤ v1) (h2 : 1 ≤ v2) (h3 : 1 ≤ v3) (hk : 1 ≤ k) : lvl (histL [v0, v1, v2, v3]) 4 k - lvl (histL [0, 0, 0, 0]) 4 k = k * seatsI 2 v0 v1 v2 v3 k := by
  rw [hist_lvl (by lia) (by lia) (by lia) (by lia) hk, hist_lvl (by lia) (by lia) (by lia) (by lia) hk]
  unfold seatsI
  rw [told2 hk, told2 hk, told2 hk, told2 hk, Int.zero_fdiv]
  exact mul_sub_eq (by lia)
section
variable {way v0 v1 v2 v3 k : Int}
theorem seats_le (hw : 0 ≤ way ∧ way < 3) (b0 : v0 ≤ 6) (b1 : v1 ≤ 6) (b2 : v2 ≤ 6) (b3 : v3 ≤ 6) (hk : 1 ≤ k ∧ k ≤ 13) : k * seatsI way v0 v1 v2 v3 k < 128 := by
  have h0 := told_le (v := v0) hw hk.1
  have h1 := told_le (v := v1) hw hk.1
  have h2 := told_le (v := v2) hw hk.1
  have h3 := told_le (v := v3) hw hk.1
  unfold seatsI
  rw [Int.mul_comm, Int.add_mul, Int.add_mul, Int.add_mul]
  lia
theorem seats_nonneg (hw : 0 ≤ way ∧ way < 3) (b0 : 1 ≤ v0) (b1 : 1 ≤ v1) (b2 : 1 ≤ v2) (b3 : 1 ≤ v3) (hk : 1 ≤ k) : 0 ≤ seatsI way v0 v1 v2 v3 k := by
  have := told_nonneg hw b0 hk
  have := told_nonneg hw b1 hk
  have := told_nonneg hw b2 hk
  have := told_nonneg hw b3 hk
  unfold seatsI; lia
end
theorem told_mono {way v k j : Int} (hw : 0 ≤ way ∧ way < 3) (hv : 1 ≤ v) (hk : 1 ≤ k) (hkj : k ≤ j) : toldI way v j ≤ toldI way v k := by
  have h := (told_iff (way := way) (v := v) (q := toldI way v j) (k := j) (by lia)).mp (Int.le_refl _)
  refine (told_iff hk).mpr ?_
  generalize toldI way v j = q at *
  -- j (2q + way - 2) ≤ 2 v  →  k (2q + way - 2) ≤ 2 v
  have e : ∀ x : Int, q * (2 * x) - (2 - way) * x = x * (2 * q + way - 2) := fun x => by
    rw [Int.mul_left_comm, Int.sub_mul, Int.mul_sub, Int.mul_add, Int.mul_comm q x, Int.mul_comm way x, Int.mul_left_comm x 2 q, Int.mul_comm x 2]; lia
  have e1 := e j
  have e2 := e k
  generalize 2 * q + way - 2 = c at *
  have : k * c ≤ 2 * v := by
    rcases Int.lt_or_le c 0 with hc | hc
    · have := Int.mul_le_mul_of_nonneg_left (show c ≤ 0 by lia) (show 0 ≤ k by lia)
      lia
    · have := Int.mul_le_mul_of_nonneg_right hkj hc
      lia
  lia
theorem seats_mono {way v0 v1 v2 v3 k j : Int} (hw : 0 ≤ way ∧ way < 3) (b0 : 1 ≤ v0) (b1 : 1 ≤ v1) (b2 : 1 ≤ v2) (b3 : 1 ≤ v3) (hk : 1 ≤ k) (hkj : k ≤ j) : seatsI way v0 v1 v2 v3 j ≤ seatsI way v0 v1 v2 v3 k := by
  have := told_mono hw b0 hk hkj
  have := told_mono hw b1 hk hkj
  have := told_mono hw b2 hk hkj
  have := told_mono hw b3 hk hkj
  unfold seatsI; lia
end
theorem kw_P5 : True := (by k_with_none; w_top off; exact trivial)
section
open PySem PySem.W PyProof.Rows
/-- the votes of party i -/
noncomputable def voteI (v0 v1 v2 v3 : Int) (i : Nat) : Int := [v0, v1, v2, v3].getD i 0
noncomputable def cntI (bs : List Nat) (i : Nat) : Int := ((bs.count i : Nat) : Int)
noncomputable def GInv (way v0 v1 v2 v3 : Int) (bs : List Nat) : Prop := ∀ k : Int, 1 ≤ k → k ≤ 13 → ∀ i : Nat, i < 4 → cntI (bs.take (seatsI way v0 v1 v2 v3 k).toNat) i ≤ toldI way (voteI v0 v1 v2 v3 i) k
theorem lt4 {i : Nat} (h : i < 4) : i = 0 ∨ i = 1 ∨ i = 2 ∨ i = 3 := by lia
theorem vote_pos {v0 v1 v2 v3 : Int} (b0 : 1 ≤ v0 ∧ v0 ≤ 6) (b1 : 1 ≤ v1 ∧ v1 ≤ 6) (b2 : 1 ≤ v2 ∧ v2 ≤ 6) (b3 : 1 ≤ v3 ∧ v3 ≤ 6) {i : Nat} (h : i < 4) : 1 ≤ voteI v0 v1 v2 v3 i ∧ voteI v0 v1 v2 v3 i ≤ 6 := by
  rcases lt4 h with h | h | h | h <;> subst h <;> assumption
theorem cnt_sum : ∀ (bs : List Nat), (∀ b ∈ bs, b < 4) → cntI bs 0 + cntI bs 1 + cntI bs 2 + cntI bs 3 = bs.length
  | [], _ => rfl
  | b :: bs, h => by
    have ih := cnt_sum bs fun x hx => h x (.tail _ hx)
    have hb := h b (.head _)
    unfold cntI at ih ⊢
    simp only [List.count_cons, List.length_cons, beq_iff_eq]
    rcases lt4 hb with h | h | h | h <;> subst h <;> simp <;> lia
theorem cnt_snoc (bs : List Nat) (b i : Nat) : cntI (bs ++ [b]) i = cntI bs i + if i = b then 1 else 0 := by
  unfold cntI
  rw [List.count_append, List.count_cons, List.count_nil]
  by_cases h : i = b
  · subst h; simp
  · have h2 : ¬ b = i := fun e => h e.symm
    simp [h, h2]
theorem cnt_nonneg (bs : List Nat) (i : Nat) : 0 ≤ cntI bs i := Int.natCast_nonneg _
section
variable {way v0 v1 v2 v3 : Int}
theorem seats_sum (k : Int) : seatsI way v0 v1 v2 v3 k = toldI way (voteI v0 v1 v2 v3 0) k + toldI way (voteI v0 v1 v2 v3 1) k + toldI way (voteI v0 v1 v2 v3 2) k + toldI way (voteI v0 v1 v2 v3 3) k := rfl
theorem claim_iff {k v c : Int} (hk : 1 ≤ k) : c + 1 ≤ toldI way v k ↔ k * (2 * c + way) ≤ 2 * v := by
  rw [told_iff hk]
  have e : (c + 1) * (2 * k) - (2 - way) * k = k * (2 * c + way) := by
    rw [Int.add_mul, Int.mul_add, Int.sub_mul, Int.mul_left_comm c 2 k, Int.mul_comm c k, Int.mul_left_comm k 2 c, Int.mul_comm way k]; lia
  lia
theorem claim_trans {k vj vb x y : Int} (hj : 1 ≤ vj) (hb : 1 ≤ vb) (hk : 1 ≤ k) (h1 : k * y ≤ 2 * vj) (h2 : vj * x ≤ vb * y) : k * x ≤ 2 * vb := by
  have a1 : vb * (k * y) ≤ vb * (2 * vj) := Int.mul_le_mul_of_nonneg_left h1 (by lia)
  have a2 : k * (vj * x) ≤ k * (vb * y) := Int.mul_le_mul_of_nonneg_left h2 (by lia)
  have a3 : vj * (k * x) ≤ vj * (2 * vb) := by
    have e1 : k * (vj * x) = vj * (k * x) := Int.mul_left_comm ..
    have e2 : k * (vb * y) = vb * (k * y) := Int.mul_left_comm ..
    have e3 : vb * (2 * vj) = vj * (2 * vb) := by rw [Int.mul_left_comm, Int.mul_comm vb vj, Int.mul_left_comm]
    lia
  exact Int.le_of_mul_le_mul_left a3 (by lia)
theorem greedy_step (b0 : 1 ≤ v0 ∧ v0 ≤ 6) (b1 : 1 ≤ v1 ∧ v1 ≤ 6) (b2 : 1 ≤ v2 ∧ v2 ≤ 6) (b3 : 1 ≤ v3 ∧ v3 ≤ 6) {bs : List Nat} {b : Nat} (hbs : ∀ x ∈ bs, x < 4) (hb : b < 4) (G : GInv way v0 v1 v2 v3 bs)
    (hbest : ∀ i : Nat, i < 4 → voteI v0 v1 v2 v3 i * (2 * cntI bs b + way) ≤ voteI v0 v1 v2 v3 b * (2 * cntI bs i + way)) : GInv way v0 v1 v2 v3 (bs ++ [b]) := by
  intro k k1 k2 i hi
  have g := G k k1 k2
  by_cases hl : (seatsI way v0 v1 v2 v3 k).toNat ≤ bs.length
  · rw [List.take_append_of_le_length hl]; exact g i hi
  · have e1 : (bs ++ [b]).take (seatsI way v0 v1 v2 v3 k).toNat = bs ++ [b] := List.take_of_length_le (by rw [List.length_append, List.length_singleton]; lia)
    have e2 : bs.take (seatsI way v0 v1 v2 v3 k).toNat = bs := List.take_of_length_le (by lia)
    rw [e1, cnt_snoc]
    rw [e2] at g
    by_cases hib : i = b
    · subst hib
      rw [if_pos rfl]
      have hs := cnt_sum bs hbs
      have ht := seats_sum (way := way) (v0 := v0) (v1 := v1) (v2 := v2) (v3 := v3) k
      have : ∃ j : Nat, j < 4 ∧ cntI bs j + 1 ≤ toldI way (voteI v0 v1 v2 v3 j) k := by
        apply Classical.byContradiction
        intro hn
        have n : ∀ j : Nat, j < 4 → toldI way (voteI v0 v1 v2 v3 j) k ≤ cntI bs j := fun j hj => by
          apply Classical.byContradiction
          intro h; exact hn ⟨j, hj, by lia⟩
        have n0 := n 0 (by decide)
        have n1 := n 1 (by decide)
        have n2 := n 2 (by decide)
        have n3 := n 3 (by decide)
        lia
      obtain ⟨j, hj, hc⟩ := this
      exact (claim_iff k1).mpr (claim_trans (vote_pos b0 b1 b2 b3 hj).1 (vote_pos b0 b1 b2 b3 hb).1 k1 ((claim_iff k1).mp hc) (hbest j hj))
    · rw [if_neg hib]
      have := g i hi
      lia
theorem greedy_nil (hw : 0 ≤ way ∧ way < 3) (b0 : 1 ≤ v0 ∧ v0 ≤ 6) (b1 : 1 ≤ v1 ∧ v1 ≤ 6) (b2 : 1 ≤ v2 ∧ v2 ≤ 6) (b3 : 1 ≤ v3 ∧ v3 ≤ 6) : GInv way v0 v1 v2 v3 [] := by
  intro k k1 k2 i hi
  rw [List.take_nil]
  exact told_nonneg hw (vote_pos b0 b1 b2 b3 hi).1 k1
theorem greedy_end (hw : 0 ≤ way ∧ way < 3) (b0 : 1 ≤ v0 ∧ v0 ≤ 6) (b1 : 1 ≤ v1 ∧ v1 ≤ 6) (b2 : 1 ≤ v2 ∧ v2 ≤ 6) (b3 : 1 ≤ v3 ∧ v3 ≤ 6) {bs : List Nat} (hbs : ∀ x ∈ bs, x < 4) (hl : bs.length = (seatsI way v0 v1 v2 v3 1).toNat) (G : GInv way v0 v1 v2 v3 bs)
    {k : Int} (k1 : 1 ≤ k) (k2 : k ≤ 13) {i : Nat} (hi : i < 4) : cntI (bs.take (seatsI way v0 v1 v2 v3 k).toNat) i = toldI way (voteI v0 v1 v2 v3 i) k := by
  have g := G k k1 k2
  have m := seats_mono hw b0.1 b1.1 b2.1 b3.1 (Int.le_refl 1) k1
  have n := seats_nonneg hw b0.1 b1.1 b2.1 b3.1 k1
  have hs := cnt_sum (bs.take (seatsI way v0 v1 v2 v3 k).toNat) fun x hx => hbs x (List.mem_of_mem_take hx)
  rw [List.length_take, Nat.min_eq_left (by lia)] at hs
  have ht := seats_sum (way := way) (v0 := v0) (v1 := v1) (v2 := v2) (v3 := v3) k
  have g0 := g 0 (by decide)
  have g1 := g 1 (by decide)
  have g2 := g 2 (by decide)
  have g3 := g 3 (by decide)
  rcases lt4 hi with h | h | h | h <;> subst h <;> lia
/-- the best of the first m parties -/
noncomputable def Best (way v0 v1 v2 v3 : Int) (bs : List Nat) (b m : Nat) : Prop := b < 4 ∧ ∀ i : Nat, i < m → voteI v0 v1 v2 v3 i * (2 * cntI bs b + way) ≤ voteI v0 v1 v2 v3 b * (2 * cntI bs i + way)
theorem best_zero {bs : List Nat} : Best way v0 v1 v2 v3 bs 0 1 := ⟨by decide, fun i hi => by have : i = 0 := by lia
                                                                                              subst this; exact Int.le_refl _⟩
theorem best_yes (b0 : 1 ≤ v0 ∧ v0 ≤ 6) (b1 : 1 ≤ v1 ∧ v1 ≤ 6) (b2 : 1 ≤ v2 ∧ v2 ≤ 6) (b3 : 1 ≤ v3 ∧ v3 ≤ 6) {late : Int} (hl : 0 ≤ late ∧ late < 2) {bs : List Nat} {b o : Nat} (ho : o < 4) (h : Best way v0 v1 v2 v3 bs b o)
    (hc : voteI v0 v1 v2 v3 b * (2 * cntI bs o + way) - late < voteI v0 v1 v2 v3 o * (2 * cntI bs b + way)) : Best way v0 v1 v2 v3 bs o (o + 1) := by
  refine ⟨ho, fun i hi => ?_⟩
  by_cases hio : i = o
  · subst hio; exact Int.le_refl _
  · have h1 := h.2 i (by lia)
    have pb := (vote_pos b0 b1 b2 b3 h.1).1
    have pi := (vote_pos b0 b1 b2 b3 (show i < 4 by lia)).1
    have po := (vote_pos b0 b1 b2 b3 ho).1
    have h2 : voteI v0 v1 v2 v3 b * (2 * cntI bs o + way) ≤ voteI v0 v1 v2 v3 o * (2 * cntI bs b + way) := by lia
    generalize voteI v0 v1 v2 v3 b = vb at *
    generalize voteI v0 v1 v2 v3 o = vo at *
    generalize voteI v0 v1 v2 v3 i = vi at *
    generalize 2 * cntI bs b + way = cb at *
    generalize 2 * cntI bs o + way = co at *
    generalize 2 * cntI bs i + way = ci at *
    have a1 : vi * (vb * co) ≤ vi * (vo * cb) := Int.mul_le_mul_of_nonneg_left h2 (by lia)
    have a2 : vo * (vi * cb) ≤ vo * (vb * ci) := Int.mul_le_mul_of_nonneg_left h1 (by lia)
    have a3 : vb * (vi * co) ≤ vb * (vo * ci) := by
      have e1 : vi * (vb * co) = vb * (vi * co) := Int.mul_left_comm ..
      have e2 : vi * (vo * cb) = vo * (vi * cb) := Int.mul_left_comm ..
      have e3 : vo * (vb * ci) = vb * (vo * ci) := Int.mul_left_comm ..
      lia
    exact Int.le_of_mul_le_mul_left a3 (by lia)
theorem best_no {late : Int} (hl : 0 ≤ late ∧ late < 2) {bs : List Nat} {b o : Nat} (h : Best way v0 v1 v2 v3 bs b o)
    (hc : ¬ voteI v0 v1 v2 v3 b * (2 * cntI bs o + way) - late < voteI v0 v1 v2 v3 o * (2 * cntI bs b + way)) : Best way v0 v1 v2 v3 bs b (o + 1) := by
  refine ⟨h.1, fun i hi => ?_⟩
  by_cases hio : i = o
  · subst hio; omega
  · exact h.2 i (by omega)
end
end
theorem kw_E0f : True := (by k_with_none; w_top off; exact trivial)
section
open PySem PySem.W PyProof.Rows
open Lean Elab Tactic Meta
section
variable {prog : PySem.Program} {w : World} {A : Around} {E : PySem.Value → Shared → Prop} {s : Shared} {h₀ : Heap} {L : Addr} {m : PySem.Str → Option PySem.Value} {news : List (Addr × PySem.Obj)}
theorem ok3 (a b c : Int) : kqdOk 8 (Dat.tuple [.int a, .int b, .int c]) = true := by simp [kqdOk]
theorem ne_same {a b : Addr} {xs ys : List PySem.Value} {e e' : Nat} {D D' : List Dat} {n₁ n₂ : List (Addr × PySem.Obj)} {Q : PySem.Value → Shared → Prop} (N : News h₀ L s.heap news) (ma : (a, listOf xs.toArray e) ∈ news) (mb : (b, listOf ys.toArray e') ∈ news) (Da : DatAll n₁ xs D) (Db : DatAll n₂ ys D') (sa : ∀ p ∈ n₁, p ∈ news) (sb : ∀ p ∈ n₂, p ∈ news)
    (ed : D = D') (hok : ∀ d ∈ D, kqdOk 8 d = true) (hu : A.units + 64 < cLine) (h : Q (.bool false) s) : wpAny (model prog w) A (compareOp .NotEq (.ref a) (.ref b)) Q E s := by
  subst ed
  refine kqd_ne N ma rfl rfl Da sa mb rfl rfl Db sb hok hok hu ?_
  simpa using h
theorem gains_ok (v0 v1 v2 v3 : Int) : ∀ d ∈ gainsOf v0 v1 v2 v3, kqdOk 8 d = true := fun d hd => by
  unfold gainsOf at hd
  obtain ⟨k, _, hk⟩ := List.mem_filterMap.mp hd
  unfold gainF at hk
  split at hk
  · cases hk
  · cases hk; exact ok3 _ _ _
theorem wit_ok {n : Nat} {f g : Int → Int} : ∀ d ∈ witOf n f g, kqdOk 8 d = true := fun d hd => by
  unfold witOf at hd
  obtain ⟨k, _, hk⟩ := List.mem_filterMap.mp hd
  unfold witF at hk
  split at hk
  · cases hk
  · cases hk; exact ok3 _ _ _
end
section
variable {w : World} {mean : ExcName → Option PySem.Value} {mg mb : PySem.Str → Option PySem.Value} {dp un : Nat} {gd : Option (List Code)} {cn : PySem.Str} {cs : Scope} {a : Addr} {ccd : PySem.Value} {cl : List (PySem.Str × Addr)} {outer : List Env} {A₀ : Around} {base h₀ : Heap} {L : Addr} {m : PySem.Str → Option PySem.Value} {news : List (Addr × PySem.Obj)} {s : Shared}
    {Q E : PySem.Value → Shared → Prop}
theorem witness_spec2 {x y : Addr} {ns ms : List Int} {nt mt : Int}
    (B : Below A₀ base outer h₀) (F : Fr h₀ L s.heap m) (X : (hd0.heap_1 w.params).In h₀) (N : News h₀ L s.heap news) (T : Top topProg LS mean mg mb h₀) (hk : cs.kind = .function)
    (hx : WsAt w.params news x ns nt) (hy : WsAt w.params news y ms mt) (hd : dp + 6 < recursionLimit) (hu : un + 80 < cLine)
    (hret : ∀ (l : Addr) (vs : List PySem.Value) (e : Nat) (tl : List (Addr × PySem.Obj)) h' tk', Fr h₀ L h' m → News h₀ L h' ((l, listOf vs.toArray e) :: (news ++ tl)) → OwnOff tl (l :: news.map (·.1)) → (∀ p ∈ news, p.1 < l) → DatAll (news ++ tl) vs (witOf (max (ns.length - 1) (ms.length - 1) + 1) (lvl ns nt) (lvl ms mt)) → Q (.ref l) { s with heap := h', toks := tk' }) :
    wpAny (model PG w) (ktrTop dp un gd cn cs L a ccd cl outer) (call (.ref 190) [.ref x, .ref y]) Q E s := witness_spec B F X N T hk hx hy (ws_len hx) (ws_len hy) hd hu hret
end
end
theorem kw_E0g : True := (by k_with_none; w_top off; exact trivial)
section
open PySem PySem.W PyProof.Rows PySem.Calls PySem.Spec
open Lean Elab Tactic Meta
open LCg
section
variable {prog : PySem.Program} {w : World} {A : Around} {E : PySem.Value → Shared → Prop} {s : Shared} {h₀ : Heap} {L : Addr} {m : PySem.Str → Option PySem.Value} {news : List (Addr × PySem.Obj)} {env : Env}
/-- the turn of a comprehension with three names: from the item's parts to the element -/
noncomputable def Turn3 (prog : PySem.Program) (w : World) (A : Around) (h₀ : Heap) (L : Addr) (m : PySem.Str → Option PySem.Value) (env : Env) (elt : PySem.Expr) (x y z : PySem.Str) (scope : Scope) (cl : List (PySem.Str × Addr)) (s : Shared) (news : List (Addr × PySem.Obj)) (its : Array PySem.Value) (J : Nat → List PySem.Value → List (Addr × PySem.Obj) → Prop) : Prop :=
  ∀ i ys tl v, its[i]? = some v → J i ys tl → ∃ (t : Addr) (ot : PySem.Obj) (v₁ v₂ v₃ : PySem.Value) (nt : Nat), v = .ref t ∧ (t, ot) ∈ tl ++ news ∧ ot.cls = .type "tuple" ∧ ot.data = .seq #[v₁, v₂, v₃] nt ∧
    ∀ C oC m₂ h tk (E' : PySem.Value → Shared → Prop), NsObj oC m₂ → m₂ x = some v₁ → m₂ y = some v₂ → m₂ z = some v₃ → Fr h₀ L h m → News h₀ L h ((C, oC) :: (tl ++ news)) →
      wpAny (model prog w) A (eval elt (compEnvC scope cl C env)) (fun e s' => ∃ h' tk' tl', s' = { s with heap := h', toks := tk' } ∧ (∀ b o, h.get? b = some o → h'.get? b = some o) ∧ (∀ p ∈ tl', p ∈ tl ∨ h.objs.size ≤ p.1) ∧ News h₀ L h' (tl' ++ news) ∧ J (i + 1) (ys ++ [e]) tl') E' { s with heap := h, toks := tk }
theorem comp3 {elt iter : PySem.Expr} {x y z : PySem.Str} {px py pz tp : Pos} {kk : Nat} {scope : Scope} {cl : List (PySem.Str × Addr)} {pos : Pos} {Q : PySem.Value → Shared → Prop} {ax : Addr} {its : Array PySem.Value} {ek : Nat}
    (hh : A.handled = none) (F : Fr h₀ L s.heap m) (N : News h₀ L s.heap news) (hax : (ax, ({ cls := .type "list", data := .seq its ek } : PySem.Obj)) ∈ news) (hsz : its.size ≤ sizeLine)
    (J : Nat → List PySem.Value → List (Addr × PySem.Obj) → Prop) (J0 : J 0 [] [])
    (hclos : closureFor scope env = pure cl) (hcell : ∀ y ∈ scope.names, y.2 ≠ .cell) (hkind : scope.kind = .function)
    (hnames : ∀ y ∈ scope.names, y.2 = .local → scope.names.lookup y.1 = some .local) (hx : scope.names.lookup x = some .local) (hy : scope.names.lookup y = some .local) (hz : scope.names.lookup z = some .local) (hxy : x ≠ y) (hxz : x ≠ z) (hyz : y ≠ z)
    (hit : ∀ (Q' : PySem.Value → Shared → Prop), Q' (.ref ax) s → wpAny (model prog w) A (eval iter env) Q' E s)
    (turn : Turn3 prog w A h₀ L m env elt x y z scope cl s news its J)
    (fin : ∀ D ys tl h' tk', J its.size ys tl → Fr h₀ L h' m → News h₀ L h' ((D, lst ys) :: (tl ++ news)) → (∀ p ∈ news, p.1 < D) → Q (.ref D) { s with heap := h', toks := tk' })
    (hs : ∀ x, foldedSetIterable iter env x = pure x := by intro _; rfl) :
    wpAny (model prog w) A (eval (.ListComp elt [⟨.Tuple [.Name x px, .Name y py, .Name z pz] kk tp, iter, [], 0⟩] scope pos) env) Q E s := by
  rw [eval_ListComp]
  refine wpAny_comprehension_free (use := none) rfl hs hclos hkind hnames (hit _ ?_)
  have hl : s.heap.IsList ax its := News.isList N hax
  have hlt : ax < s.heap.objs.size := by obtain ⟨_, e, _⟩ := hl; exact Heap.lt_size e
  refine wpAny_pyIter_list hl ?_
  generalize hH1 : s.heap.push { cls := .type "list_iterator", data := .fields #[.ref ax, .int 0 0] } = H1
  generalize hI : s.heap.objs.size = I at hlt ⊢
  have s1 : H1.objs.size = I + 1 := by rw [← hH1, Heap.size_push, hI]
  have up1 : ∀ b o, s.heap.get? b = some o → H1.get? b = some o := fun b o e => by rw [← hH1]; exact Heap.get?_push_of_some _ e
  have st1 : H1.IsListIter I ax 0 ∧ H1.IsList ax its := ⟨⟨_, by rw [← hH1, ← hI]; exact Heap.get?_push_size _ rfl, rfl, rfl⟩, by rw [← hH1]; exact hl.push _⟩
  refine wpAny_newObj_type (wpAny_newFunctionEnv hcell (by intro y hy; simp at hy) (fun h₁ hns₁ hsb₁ => ?_) hkind)
  dsimp only at hns₁ hsb₁ ⊢
  generalize hH2 : H1.push { cls := .type "list", dict := none, data := .seq ([] : List PySem.Value).toArray } = H2 at hns₁ hsb₁ ⊢
  generalize hD : H1.objs.size = D at *
  have s2 : H2.objs.size = D + 1 := by rw [← hH2, Heap.size_push, hD]
  generalize hC : H2.objs.size = C at *
  have hDC : D ≠ C := by rw [s2]; exact Nat.ne_of_lt (Nat.lt_succ_self _)
  have hID : I ≠ D := by rw [s1]; exact Nat.ne_of_lt (Nat.lt_succ_self _)
  have hIC : I ≠ C := by rw [s2, s1]; exact Nat.ne_of_lt (Nat.lt_succ_of_lt (Nat.lt_succ_self _))
  have hIltD : I < D := by rw [s1]; exact Nat.lt_succ_self _
  have hDltC : D < C := by rw [s2]; exact Nat.lt_succ_self _
  have old : ∀ b o, b < D → H1.get? b = some o → h₁.get? b = some o := fun b o hb e => hsb₁.extBut b o (Nat.ne_of_lt (Nat.lt_trans hb hDltC)) (Heap.get?_push_of_some _ (hH2 ▸ Heap.get?_push_of_some _ e))
  have oldS : ∀ b o, s.heap.get? b = some o → h₁.get? b = some o := fun b o e => old b o (Nat.lt_trans (hI ▸ Heap.lt_size e) hIltD) (up1 b o e)
  have hacc : h₁.get? D = some (lst []) := hsb₁.extBut _ _ hDC (Heap.get?_push_of_some _ (by rw [← hH2, ← hD]; exact Heap.get?_push_size _ rfl))
  have fresh₀ : ∀ b, I ≤ b → h₀.get? b = none := fun b hb => by
    cases e : h₀.get? b with
    | none => rfl
    | some o' => exact absurd (hI ▸ Heap.lt_size (F.keep b o' e)) (Nat.not_lt.mpr hb)
  have hI₀ := fresh₀ I (Nat.le_refl _)
  have hD₀ := fresh₀ D (Nat.le_of_lt hIltD)
  have hC₀ := fresh₀ C (Nat.le_of_lt (Nat.lt_trans hIltD hDltC))
  have hLI : L < I := hI ▸ F.ns.lt
  have hLD : L < D := Nat.lt_trans hLI hIltD
  have hLC : L < C := Nat.lt_trans hLD hDltC
  have W := Walks.list (prog := prog) (w := w) hh I ax (Nat.ne_of_lt hlt) its
  have stk : ∀ i (g g' : Heap), (g.IsListIter I ax i ∧ g.IsList ax its) → (∀ b o, (b = I ∨ b = ax) → g.get? b = some o → g'.get? b = some o) → (g'.IsListIter I ax i ∧ g'.IsList ax its) := fun i g g' ⟨⟨o, e, r⟩, ⟨o', e', r'⟩⟩ k => ⟨⟨o, k _ _ (.inl rfl) e, r⟩, ⟨o', k _ _ (.inr rfl) e', r'⟩⟩
  have st2 : h₁.IsListIter I ax 0 ∧ h₁.IsList ax its := stk 0 H1 h₁ st1 fun b o hb e => old b o (by rcases hb with rfl | rfl; exact hIltD; exact Nat.lt_trans hlt hIltD) e
  have newsLt : ∀ p ∈ news, p.1 < I := fun p hp => hI ▸ Heap.lt_size (N p hp).1
  have axI : ax ≠ I := Nat.ne_of_lt hlt
  have axD : ax ≠ D := Nat.ne_of_lt (Nat.lt_trans hlt hIltD)
  have axC : ax ≠ C := Nat.ne_of_lt (Nat.lt_trans hlt (Nat.lt_trans hIltD hDltC))
  let Off : List (Addr × PySem.Obj) → Prop := fun l => ∀ p ∈ l, p.1 ≠ I ∧ p.1 ≠ C ∧ p.1 ≠ D
  have offN : Off news := fun p hp => ⟨Nat.ne_of_lt (newsLt p hp), Nat.ne_of_lt (Nat.lt_trans (newsLt p hp) (Nat.lt_trans hIltD hDltC)), Nat.ne_of_lt (Nat.lt_trans (newsLt p hp) hIltD)⟩
  let Inv : Nat → Shared → Prop := fun k s' => ∃ h' tk i ys m' tl, s' = { s with heap := h', toks := tk } ∧ i ≤ its.size ∧ k = its.size + 1 - i ∧ ys.length = i ∧ (h'.IsListIter I ax i ∧ h'.IsList ax its) ∧ Fr h₀ L h' m ∧ h'.Ns C m' ∧ News h₀ L h' ((D, lst ys) :: (tl ++ news)) ∧ Off tl ∧ J i ys tl
  have loop : ∀ s₃ : Shared, (∃ tk, s₃ = { s with heap := h₁, toks := tk }) → codeAny (model prog w) A (.compLoop (.ListComp elt [⟨.Tuple [.Name x px, .Name y py, .Name z pz] kk tp, iter, [], 0⟩] scope pos) 0 (.ref I) (.ref D) (compEnvC scope cl C env))
      (compPost (model prog w) A E none Q (.ref D) C) s₃ := by
    rintro s₃ ⟨tk₀, rfl⟩
    refine kcp_loop Inv ?_ (its.size + 1) ⟨h₁, _, 0, [], _, [], rfl, Nat.zero_le _, rfl, rfl, st2, F.keeps oldS, hns₁, fun p hp => ?_, (fun p hp => nomatch hp), J0⟩
    · rintro k s' ⟨h', tk, i, ys, m', tl, rfl, hi, rfl, hyl, hst', F', hn', N', off', j⟩
      have offA : ∀ p ∈ tl ++ news, p.1 ≠ I ∧ p.1 ≠ C ∧ p.1 ≠ D := fun p hp => (List.mem_append.mp hp).elim (off' p) (offN p)
      have hsC : C < h'.objs.size := hn'.lt
      have sizes : ∀ g : Heap, g.Ns C m' → C < g.objs.size := fun g hg => hg.lt
      by_cases hlt' : i < its.size
      · refine W.item i _ _ _ hlt' hst' fun v h₂ tk₂ hPv hst₂ hk₂ => ?_
        obtain ⟨t, ot, v₁, v₂, v₃, nt, rfl, hmt, hct, hdt, R⟩ := turn i ys tl _ hPv j
        have N₂ : News h₀ L h₂ ((D, lst ys) :: (tl ++ news)) := news_but N' hk₂ fun p hp => by
          rcases List.mem_cons.mp hp with rfl | hp
          · exact Ne.symm hID
          · exact (offA p hp).1
        have hn₂ : h₂.Ns C m' := hn'.at' fun o e => hk₂ _ o (by simpa using Ne.symm hIC) e
        have ht : IsTup h₂ t #[v₁, v₂, v₃] := ⟨ot, (N₂ _ (List.mem_cons_of_mem _ hmt)).1, hct, nt, hdt⟩
        obtain ⟨⟨oLI, hLe, hLr⟩, hLl⟩ := hst₂
        refine wpAny_letOwnedTupleGo_listiter (l := ax) (i := i + 1) ⟨oLI, hLe, hLr⟩ ?_
        refine assign_Tuple_tuple hh ht rfl rfl fun h₅ he => ?_
        have he' : ∀ b o, h₂.get? b = some o → h₅.get? b = some o := fun b o e => he b o (Nat.ne_of_lt (Heap.lt_size e)) e
        refine assignInOrder_cons (wpAny_assign_Name (wpAny_storeName_local (lookup_relabel_local hx) (hn₂.at' fun o e => he' _ o e) (fun h₆ hn₆ hs₆ => ?_) (by simp [compEnvC, relabel, hkind])))
        refine assignInOrder_cons (wpAny_assign_Name (wpAny_storeName_local (lookup_relabel_local hy) hn₆ (fun h₇ hn₇ hs₇ => ?_) (by simp [compEnvC, relabel, hkind])))
        refine assignInOrder_cons (wpAny_assign_Name (wpAny_storeName_local (lookup_relabel_local hz) hn₇ (fun h₃ hn₃ hs₃ => ?_) (by simp [compEnvC, relabel, hkind])))
        refine assignInOrder_nil ?_
        have old3 : ∀ b o, b ≠ C → h₂.get? b = some o → h₃.get? b = some o := fun b o hb e => hs₃.extBut b o hb (hs₇.extBut b o hb (hs₆.extBut b o hb (he' b o e)))
        have hst₃ := stk (i + 1) h₂ h₃ ⟨⟨oLI, hLe, hLr⟩, hLl⟩ fun b o hb e => old3 b o (by rcases hb with rfl | rfl; exact hIC; exact axC) e
        obtain ⟨oC, heC, hoC⟩ := ns_obj hn₃
        have F₃ : Fr h₀ L h₃ m := ((((fr_but F' hk₂ (Nat.ne_of_lt hLI) hI₀).keeps he').change hs₆ (Ne.symm (Nat.ne_of_lt hLC)) hC₀).change hs₇ (Ne.symm (Nat.ne_of_lt hLC)) hC₀).change hs₃ (Ne.symm (Nat.ne_of_lt hLC)) hC₀
        have N₃ : News h₀ L h₃ ((C, oC) :: (tl ++ news)) := fun p hp => by
          rcases List.mem_cons.mp hp with rfl | hp
          · exact ⟨heC, Ne.symm (Nat.ne_of_lt hLC), hC₀⟩
          · exact ⟨old3 _ _ (offA p hp).2.1 (N₂ p (List.mem_cons_of_mem _ hp)).1, (N₂ p (List.mem_cons_of_mem _ hp)).2⟩
        have hacc₃ : h₃.get? D = some (lst ys) := old3 _ _ hDC (N₂ _ List.mem_cons_self).1
        refine wpAny_mono (R C oC _ h₃ _ _ hoC (by simp [hxy, hxz]) (by simp [hyz]) (by first | walk_at "mem" | simp) F₃ N₃) (fun e s₄ h₄ => ?_) fun _ _ e => e
        obtain ⟨h₄, tk₄, tl₄, rfl, up₄, off₄, N₄, j₄⟩ := h₄
        have F₄ : Fr h₀ L h₄ m := F₃.keeps up₄
        refine append_at (hsz := by show ys.toArray.size ≤ sizeLine; rw [List.size_toArray, hyl]; exact Nat.le_trans hi hsz) (up₄ _ _ hacc₃) fun h₅' hs₅ hD₅ => ?_
        have off4 : Off tl₄ := fun p hp => (off₄ p hp).elim (off' p) fun hge => by
          have hC3 : C < h₃.objs.size := Heap.lt_size heC
          exact ⟨Nat.ne_of_gt (Nat.lt_of_lt_of_le (Nat.lt_trans (Nat.lt_trans hIltD hDltC) hC3) hge), Nat.ne_of_gt (Nat.lt_of_lt_of_le hC3 hge), Nat.ne_of_gt (Nat.lt_of_lt_of_le (Nat.lt_trans hDltC hC3) hge)⟩
        have offA4 : ∀ p ∈ tl₄ ++ news, p.1 ≠ I ∧ p.1 ≠ C ∧ p.1 ≠ D := fun p hp => (List.mem_append.mp hp).elim (off4 p) (offN p)
        refine ⟨its.size + 1 - (i + 1), by lia, h₅', tk₄, i + 1, ys ++ [e], _, tl₄, rfl, hlt', rfl, by rw [List.length_append, List.length_singleton, hyl], stk (i + 1) h₃ h₅' hst₃ fun b o hb e' => hs₅.extBut b o (by rcases hb with rfl | rfl; exact hID; exact axD) (up₄ _ _ e'), F₄.change hs₅ (Ne.symm (Nat.ne_of_lt hLD)) hD₀,
          (hoC.ns (up₄ _ _ heC)).sameBut hs₅ (Ne.symm hDC), fun p hp => ?_, off4, j₄⟩
        rcases List.mem_cons.mp hp with rfl | hp
        · exact ⟨hD₅.trans (congrArg some (lst_snoc ys e)), Ne.symm (Nat.ne_of_lt hLD), hD₀⟩
        · exact ⟨hs₅.extBut _ _ (offA4 p hp).2.2 (N₄ p hp).1, (N₄ p hp).2⟩
      · obtain rfl : i = its.size := Nat.le_antisymm hi (Nat.not_lt.mp hlt')
        refine W.done _ _ _ hst' fun h₂ tk₂ hk₂ => ?_
        have F₂ := fr_but F' hk₂ (Nat.ne_of_lt hLI) hI₀
        have N₂ : News h₀ L h₂ ((D, lst ys) :: (tl ++ news)) := news_but N' hk₂ fun p hp => by
          rcases List.mem_cons.mp hp with rfl | hp
          · exact Ne.symm hID
          · exact (offA p hp).1
        refine ⟨m', hn'.at' fun o e => hk₂ _ o (by simpa using Ne.symm hIC) e, fun h'' hs'' => fin D ys tl h'' tk₂ j (F₂.change hs'' (Ne.symm (Nat.ne_of_lt hLC)) hC₀) (fun p hp => ?_) fun p hp => Nat.lt_trans (newsLt p hp) hIltD⟩
        refine ⟨hs''.extBut _ _ ?_ (N₂ p hp).1, (N₂ p hp).2⟩
        rcases List.mem_cons.mp hp with rfl | hp
        · exact hDC
        · exact (offA p hp).2.1
    · rcases List.mem_cons.mp hp with rfl | hp
      · exact ⟨hacc, Ne.symm (Nat.ne_of_lt hLD), hD₀⟩
      · exact ⟨oldS _ _ (N p hp).1, (N p hp).2⟩
  exact codeAny_compStart_list (loop _ ⟨_, rfl⟩) (W.self 0 _ _ _ st2 (loop _ ⟨_, rfl⟩))
end
end
theorem kw_E0h : True := (by k_with_none; w_top off; exact trivial)
section
open PySem PySem.W PyProof.Rows PySem.Calls PySem.Spec
open Lean Elab Tactic Meta
open LCg
noncomputable def Tri : Dat → Prop := fun d => ∃ a b c : Int, d = .tuple [.int a, .int b, .int c]
noncomputable def swapD : Dat → Dat
  | .tuple [a, b, c] => .tuple [a, c, b]
  | d => d
theorem gains_tri (v0 v1 v2 v3 : Int) : ∀ d ∈ gainsOf v0 v1 v2 v3, Tri d := fun d hd => by
  unfold gainsOf at hd
  obtain ⟨k, _, hk⟩ := List.mem_filterMap.mp hd
  unfold gainF at hk
  split at hk
  · cases hk
  · cases hk; exact ⟨_, _, _, rfl⟩
section
variable {prog : PySem.Program} {w : World} {A : Around} {E : PySem.Value → Shared → Prop} {s : Shared} {h₀ : Heap} {L : Addr} {m : PySem.Str → Option PySem.Value} {news : List (Addr × PySem.Obj)} {env : Env}
theorem swap_turn {x y z : PySem.Str} {px py pz tp : Pos} {kk : Nat} {scope : Scope} {cl : List (PySem.Str × Addr)} {vs : List PySem.Value} {D : List Dat} {n₁ : List (Addr × PySem.Obj)} (hD : DatAll n₁ vs D) (hs : ∀ p ∈ n₁, p ∈ news) (hT : ∀ d ∈ D, Tri d)
    (ld : ∀ (C : Addr) (n : PySem.Str), n = x ∨ n = y ∨ n = z → (compEnvC scope cl C env).scope.kind = .function ∧ (compEnvC scope cl C env).kindOf n = some .local ∧ (n == ("__debug__" : PySem.Str)) = false) :
    Turn3 prog w A h₀ L m env (.Tuple [.Name x px, .Name z pz, .Name y py] kk tp) x y z scope cl s news vs.toArray (fun i ys tl => DatAll (tl ++ news) ys ((D.take i).map swapD)) := by
  intro i ys tl v hv j
  have hi : i < D.length := by
    have h1 : i < vs.length := by
      rcases Nat.lt_or_ge i vs.length with h | h
      · exact h
      · rw [List.getElem?_toArray, List.getElem?_eq_none h] at hv; cases hv
    rw [← hD.length]; exact h1
  obtain ⟨v', e', hin⟩ := hD.get hi
  rw [List.getElem?_toArray, e'] at hv
  cases hv
  obtain ⟨a, b, c, hd⟩ := hT _ (List.getElem_mem hi)
  rw [hd] at hin
  cases hin with
  | tuple hmem hall =>
    cases hall with
    | cons h1 hall => cases hall with
      | cons h2 hall => cases hall with
        | cons h3 hall =>
          cases hall
          cases h1 with
          | int _ ta => cases h2 with
            | int _ tb => cases h3 with
              | int _ tc =>
                refine ⟨_, _, .int a ta, .int b tb, .int c tc, _, rfl, List.mem_append_right _ (hs _ hmem), rfl, rfl, fun C oC m₂ h tk E' hoC e1 e2 e3 F N => ?_⟩
                refine Tuple_ (args_cons ?_)
                obtain ⟨k1, l1, d1⟩ := ld C x (.inl rfl)
                obtain ⟨k2, l2, d2⟩ := ld C y (.inr (.inl rfl))
                obtain ⟨k3, l3, d3⟩ := ld C z (.inr (.inr rfl))
                refine LCgL.ld_own (s := { s with heap := h, toks := tk }) N (.head _) hoC e1 ?_ k1 l1 d1
                refine args_cons (LCgL.ld_own (s := { s with heap := h, toks := tk }) N (.head _) hoC e3 ?_ k3 l3 d3)
                refine args_cons (LCgL.ld_own (s := { s with heap := h, toks := tk }) N (.head _) hoC e2 ?_ k2 l2 d2)
                refine args_nil ?_
                refine wpAny_newTuple ?_ (Nat.le_trans (show 3 ≤ 16 by decide) (by rw [sizeLine_eq]; decide))
                have N1 : News h₀ L h (tl ++ news) := fun p hp => N p (.tail _ hp)
                refine ⟨_, tk, (h.objs.size, { cls := .type "tuple", data := .seq (List.toArray [.int a ta, .int c tc, .int b tb]) }) :: tl, rfl, fun b o e => Heap.get?_push_of_some _ e, fun p hp => ?_, ?_, ?_⟩
                · rcases List.mem_cons.mp hp with rfl | hp
                  · exact .inr (Nat.le_refl _)
                  · exact .inl hp
                · exact N1.push F _
                · show DatAll _ _ ((D.take (i + 1)).map swapD)
                  rw [List.take_succ_eq_append_getElem hi, List.map_append]
                  refine (j.mono fun p hp => .tail _ hp).append ?_
                  rw [hd]
                  exact DatAll.one (DatIn.tuple (.head _) (.cons (.int _ _) (.cons (.int _ _) (.cons (.int _ _) .nil))))
/-- the swapping comprehension over a list of triples -/
theorem swap_comp {x y z : PySem.Str} {px py pz qx qy qz tp tp' ip : Pos} {kk kk' : Nat} {scope : Scope} {cl : List (PySem.Str × Addr)} {pos : Pos} {nm : PySem.Str} {Q : PySem.Value → Shared → Prop} {ax : Addr} {vs : List PySem.Value} {D : List Dat} {ek : Nat} {n₁ : List (Addr × PySem.Obj)}
    (F : Fr h₀ L s.heap m) (N : News h₀ L s.heap news) (hax : (ax, listOf vs.toArray ek) ∈ news) (hD : DatAll n₁ vs D) (hs : ∀ p ∈ n₁, p ∈ news) (hT : ∀ d ∈ D, Tri d) (hsz : D.length ≤ 1000)
    (hh : A.handled = none) (hclos : closureFor scope env = pure cl) (hcell : ∀ y ∈ scope.names, y.2 ≠ .cell) (hkind : scope.kind = .function)
    (hnames : ∀ y ∈ scope.names, y.2 = .local → scope.names.lookup y.1 = some .local) (hx : scope.names.lookup x = some .local) (hy : scope.names.lookup y = some .local) (hz : scope.names.lookup z = some .local) (hxy : x ≠ y) (hxz : x ≠ z) (hyz : y ≠ z)
    (hit : ∀ (Q' : PySem.Value → Shared → Prop), Q' (.ref ax) s → wpAny (model prog w) A (eval (.Name nm ip) env) Q' E s)
    (ld : ∀ (C : Addr) (n : PySem.Str), n = x ∨ n = y ∨ n = z → (compEnvC scope cl C env).scope.kind = .function ∧ (compEnvC scope cl C env).kindOf n = some .local ∧ (n == ("__debug__" : PySem.Str)) = false)
    (fin : ∀ l' ys e' tl h' tk', Fr h₀ L h' m → News h₀ L h' ((l', listOf ys.toArray e') :: (tl ++ news)) → (∀ p ∈ news, p.1 < l') → DatAll (tl ++ news) ys (D.map swapD) → Q (.ref l') { s with heap := h', toks := tk' }) :
    wpAny (model prog w) A (eval (.ListComp (.Tuple [.Name x qx, .Name z qz, .Name y qy] kk' tp') [⟨.Tuple [.Name x px, .Name y py, .Name z pz] kk tp, .Name nm ip, [], 0⟩] scope pos) env) Q E s := by
  refine comp3 hh F N hax ?_ _ (by simpa using DatAll.nil) hclos hcell hkind hnames hx hy hz hxy hxz hyz hit (swap_turn hD hs hT ld) ?_
  · rw [List.size_toArray, hD.length, sizeLine_eq]; lia
  · intro D' ys tl h' tk' j F' N' l1
    refine fin D' ys _ tl h' tk' F' N' l1 ?_
    have : (List.take vs.toArray.size D) = D := by rw [List.size_toArray, hD.length, List.take_length]
    rw [this] at j
    exact j
end
end
theorem kw_E0i : True := (by k_with_none; w_top off; exact trivial)
section
open PySem PySem.W PyProof.Rows PySem.Calls PySem.Spec
open Lean Elab Tactic Meta
theorem witF_swap (f g : Int → Int) (k : Int) : witF g f k = (witF f g k).map swapD := by
  unfold witF
  by_cases h : f k = g k
  · rw [if_pos h, if_pos h.symm]; rfl
  · have h' : ¬ g k = f k := fun e => h e.symm
    rw [if_neg h, if_neg h']; rfl
theorem wit_gain2 {v0 v1 v2 v3 : Int} (b0 : 1 ≤ v0 ∧ v0 ≤ 6) (b1 : 1 ≤ v1 ∧ v1 ≤ 6) (b2 : 1 ≤ v2 ∧ v2 ≤ 6) (b3 : 1 ≤ v3 ∧ v3 ≤ 6) {ns ms : List Int} {nt mt : Int} (en : ns = histL [v0, v1, v2, v3]) (em : ms = histL [v0 + v1, 0, v2, v3]) (ent : nt = 4) (emt : mt = 4) :
    witOf (max (ms.length - 1) (ns.length - 1) + 1) (lvl ms mt) (lvl ns nt) = (gainsOf v0 v1 v2 v3).map swapD := by
  rw [← wit_gain b0 b1 b2 b3 en em ent emt, Nat.max_comm]
  unfold witOf
  rw [List.map_filterMap]
  congr 1
  funext k
  exact witF_swap _ _ k
theorem gains_len {v0 v1 v2 v3 : Int} (b0 : 1 ≤ v0 ∧ v0 ≤ 6) (b1 : 1 ≤ v1 ∧ v1 ≤ 6) (b2 : 1 ≤ v2 ∧ v2 ≤ 6) (b3 : 1 ≤ v3 ∧ v3 ≤ 6) : (gainsOf v0 v1 v2 v3).length ≤ 1000 := by
  unfold gainsOf
  refine Nat.le_trans (List.length_filterMap_le _ _) ?_
  unfold rangeKs
  rw [List.length_map, List.length_range]
  have hM : max (v0 + v1) (max v2 v3) ≤ 12 := Int.max_le.mpr ⟨Int.add_le_add b0.2 b1.2, Int.max_le.mpr ⟨Int.le_trans b2.2 (by decide), Int.le_trans b3.2 (by decide)⟩⟩
  generalize max (v0 + v1) (max v2 v3) = M at *
  lia
end
theorem kw_E0j : True := (by k_with_none; w_top off; exact trivial)
section
open PySem PySem.W PyProof.Rows PySem.Calls PySem.Spec
open Lean Elab Tactic Meta
/-- behind the two comparisons -/
noncomputable def Inv2 (P : PySem.Params) (h₀ : Heap) (L : Addr) (s s' : Shared) : Prop :=
  ∀ C : Shared → Prop, (∀ (h : Heap) (tk : Nat) (u : PySem.Str → Option PySem.Value) (vl xa : Addr) (v0 v1 v2 v3 way late : Int) (t0 t1 t2 t3 tl tw : Tok) (e : Nat) (ot os ow : PySem.Obj) (ct cz : Option PySem.Value) (ta : List (Addr × PySem.Obj)) (vg vt : PySem.Value), (Fr h₀ L h (fun y => if y = Str.ofString "gains" then some vg else if y = Str.ofString "together" then some vt else if y = Str.ofString "apart" then some (.ref xa) else if y = Str.ofString "late" then some (.int late tl) else if y = Str.ofString "votes" then some (.ref vl) else u y)) → (News h₀ L h ([(vl, listOf #[.int v0 t0, .int v1 t1, .int v2 t2, .int v3 t3] e), (L + 1 + 1 + 1, ot), (L + 1 + 1, os), (L + 1, ow), (126, tabObj #[]), (119, tabObj #[]), (69, tabObj #[])] ++ ta)) → (WsAt P ta xa (histL [v0, v1, v2, v3]) 4) → (ow.data = .cell (some (.int way tw))) → (ot.data = .cell ct) → (os.data = .cell cz) → ((1 ≤ v0 ∧ v0 ≤ 6)) → ((1 ≤ v1 ∧ v1 ≤ 6)) → ((1 ≤ v2 ∧ v2 ≤ 6)) → ((1 ≤ v3 ∧ v3 ≤ 6)) → ((0 ≤ way ∧ way < 3)) → ((0 ≤ late ∧ late < 2)) → ((vl ≠ L + 1 ∧ vl ≠ L + 1 + 1 ∧ vl ≠ L + 1 + 1 + 1 ∧ vl ≠ 126 ∧ vl ≠ 119 ∧ vl ≠ 69 ∧ @LT.lt Nat _ 126 L)) → ((∀ p ∈ ta, vl < p.1 ∧ L + 1 + 1 + 1 < p.1)) → C { s with heap := h, toks := tk }) → C s'
theorem inv2_of {P : PySem.Params} {h₀ h : Heap} {L : Addr} {s : Shared} {tk : Nat} {u : PySem.Str → Option PySem.Value} {vl xa : Addr} {v0 v1 v2 v3 way late : Int} {t0 t1 t2 t3 tl tw : Tok} {e : Nat} {ot os ow : PySem.Obj} {ct cz : Option PySem.Value} {ta all nw : List (Addr × PySem.Obj)} {vg vt : PySem.Value} {nt : Int}
    (F : Fr h₀ L h (fun y => if y = Str.ofString "gains" then some vg else if y = Str.ofString "together" then some vt else if y = Str.ofString "apart" then some (.ref xa) else if y = Str.ofString "late" then some (.int late tl) else if y = Str.ofString "votes" then some (.ref vl) else u y))
    (N : News h₀ L h all) (W : WsAt P ta xa (histL [v0, v1, v2, v3]) nt) (hnt : nt = 4)
    (hlt : ∀ p ∈ ta, ∀ q ∈ nw, q.1 < p.1) (m1 : (vl, listOf #[.int v0 t0, .int v1 t1, .int v2 t2, .int v3 t3] e) ∈ nw) (m2 : (L + 1 + 1 + 1, ot) ∈ nw)
    (hsub : ∀ p, p ∈ [(vl, listOf #[.int v0 t0, .int v1 t1, .int v2 t2, .int v3 t3] e), (L + 1 + 1 + 1, ot), (L + 1 + 1, os), (L + 1, ow), (126, tabObj #[]), (119, tabObj #[]), (69, tabObj #[])] ++ ta → p ∈ all)
    (hw : ow.data = .cell (some (.int way tw))) (ht : ot.data = .cell ct) (hz : os.data = .cell cz)
    (b0 : 1 ≤ v0 ∧ v0 ≤ 6) (b1 : 1 ≤ v1 ∧ v1 ≤ 6) (b2 : 1 ≤ v2 ∧ v2 ≤ 6) (b3 : 1 ≤ v3 ∧ v3 ≤ 6) (bw : 0 ≤ way ∧ way < 3) (bl : 0 ≤ late ∧ late < 2)
    (o : vl ≠ L + 1 ∧ vl ≠ L + 1 + 1 ∧ vl ≠ L + 1 + 1 + 1 ∧ vl ≠ 126 ∧ vl ≠ 119 ∧ vl ≠ 69 ∧ @LT.lt Nat _ 126 L) : Inv2 P h₀ L s { s with heap := h, toks := tk } := by
  subst hnt
  exact fun C k => k h tk u vl xa v0 v1 v2 v3 way late t0 t1 t2 t3 tl tw e ot os ow ct cz ta vg vt F (fun p hp => N p (hsub p hp)) W hw ht hz b0 b1 b2 b3 bw bl o (fun p hp => ⟨hlt p hp _ m1, hlt p hp _ m2⟩)
end
theorem kw_E3a : True := (by k_with_none; w_top off; exact trivial)
section
open PySem PySem.W PyProof.Rows PySem.Calls PySem.Spec
open Lean Elab Tactic Meta
theorem rng_dbl {v0 v1 v2 v3 : Int} (b0 : 1 ≤ v0 ∧ v0 ≤ 6) (b1 : 1 ≤ v1 ∧ v1 ≤ 6) (b2 : 1 ≤ v2 ∧ v2 ≤ 6) (b3 : 1 ≤ v3 ∧ v3 ≤ 6) : ∀ r ∈ List.map (fun k => 2 * k) [v0, v1, v2, v3], 0 ≤ r ∧ r ≤ 12 :=
  rng_cons (by dsimp only; lia) (rng_cons (by dsimp only; lia) (rng_cons (by dsimp only; lia) (rng_cons (by dsimp only; lia) rng_nil)))
noncomputable def Above (tl nw : List (Addr × PySem.Obj)) : Prop := ∀ p ∈ tl, ∀ q ∈ nw, q.1 < p.1
theorem tl_above {tl nw : List (Addr × PySem.Obj)} {a : Addr} {o : PySem.Obj} (h : Above tl nw) (hm : (a, o) ∈ nw) : ∀ p ∈ tl, a < p.1 := fun p hp => h p hp _ hm
theorem app_above {t1 t2 : List (Addr × PySem.Obj)} {a : Addr} (h1 : ∀ p ∈ t1, a < p.1) (h2 : ∀ p ∈ t2, a < p.1) : ∀ p ∈ t1 ++ t2, a < p.1 := fun p hp => (List.mem_append.mp hp).elim (h1 p) (h2 p)
/-- behind upper and lower -/
noncomputable def Inv3 (P : PySem.Params) (h₀ : Heap) (L : Addr) (s s' : Shared) : Prop :=
  ∀ C : Shared → Prop, (∀ (h : Heap) (tk : Nat) (u : PySem.Str → Option PySem.Value) (vl ua la : Addr) (nsU nsL : List Int) (ntU ntL : Int) (v0 v1 v2 v3 way late : Int) (vv : List PySem.Value) (tl tw : Tok) (e : Nat) (ot os ow : PySem.Obj) (ct cz : Option PySem.Value) (ta : List (Addr × PySem.Obj)) (vg vt va : PySem.Value), (Fr h₀ L h (fun y => if y = Str.ofString "lower" then some (.ref la) else if y = Str.ofString "upper" then some (.ref ua) else if y = Str.ofString "gains" then some vg else if y = Str.ofString "together" then some vt else if y = Str.ofString "apart" then some va else if y = Str.ofString "late" then some (.int late tl) else if y = Str.ofString "votes" then some (.ref vl) else u y)) → (News h₀ L h ((vl, listOf vv.toArray e) :: (L + 1 + 1 + 1, ot) :: (L + 1 + 1, os) :: (L + 1, ow) :: (126, tabObj #[]) :: (119, tabObj #[]) :: (69, tabObj #[]) :: ta)) → (WsAt P ta ua nsU ntU) → (WsAt P ta la nsL ntL) → ((∀ k : Int, 1 ≤ k → lvl nsU ntU k - lvl nsL ntL k = k * seatsI way v0 v1 v2 v3 k)) → (IntsAre vv [v0, v1, v2, v3]) → (ow.data = .cell (some (.int way tw))) → (ot.data = .cell ct) → (os.data = .cell cz) → ((1 ≤ v0 ∧ v0 ≤ 6)) → ((1 ≤ v1 ∧ v1 ≤ 6)) → ((1 ≤ v2 ∧ v2 ≤ 6)) → ((1 ≤ v3 ∧ v3 ≤ 6)) → ((0 ≤ way ∧ way < 3)) → ((0 ≤ late ∧ late < 2)) → ((vl ≠ L + 1 ∧ vl ≠ L + 1 + 1 ∧ vl ≠ L + 1 + 1 + 1 ∧ vl ≠ 126 ∧ vl ≠ 119 ∧ vl ≠ 69 ∧ @LT.lt Nat _ 126 L)) → ((∀ p ∈ ta, L + 1 + 1 + 1 < p.1)) → C { s with heap := h, toks := tk }) → C s'
theorem inv3_of {P : PySem.Params} {h₀ h : Heap} {L : Addr} {s : Shared} {tk : Nat} {u : PySem.Str → Option PySem.Value} {vl ua la : Addr} {nsU nsL : List Int} {ntU ntL : Int} {v0 v1 v2 v3 way late : Int} {vv : List PySem.Value} {tl tw : Tok} {e : Nat} {ot os ow : PySem.Obj} {ct cz : Option PySem.Value} {ta tU tL all : List (Addr × PySem.Obj)} {vg vt va : PySem.Value}
    (F : Fr h₀ L h (fun y => if y = Str.ofString "lower" then some (.ref la) else if y = Str.ofString "upper" then some (.ref ua) else if y = Str.ofString "gains" then some vg else if y = Str.ofString "together" then some vt else if y = Str.ofString "apart" then some va else if y = Str.ofString "late" then some (.int late tl) else if y = Str.ofString "votes" then some (.ref vl) else u y))
    (N : News h₀ L h all) (WU : WsAt P tU ua nsU ntU) (WL : WsAt P tL la nsL ntL) (hta : ∀ p ∈ ta, L + 1 + 1 + 1 < p.1) (sU : ∀ p ∈ tU, p ∈ ta) (sL : ∀ p ∈ tL, p ∈ ta)
    (hsub : ∀ p, p ∈ (vl, listOf vv.toArray e) :: (L + 1 + 1 + 1, ot) :: (L + 1 + 1, os) :: (L + 1, ow) :: (126, tabObj #[]) :: (119, tabObj #[]) :: (69, tabObj #[]) :: ta → p ∈ all)
    (hl : ∀ k : Int, 1 ≤ k → lvl nsU ntU k - lvl nsL ntL k = k * seatsI way v0 v1 v2 v3 k) (hi : IntsAre vv [v0, v1, v2, v3])
    (hw : ow.data = .cell (some (.int way tw))) (ht : ot.data = .cell ct) (hz : os.data = .cell cz)
    (b0 : 1 ≤ v0 ∧ v0 ≤ 6) (b1 : 1 ≤ v1 ∧ v1 ≤ 6) (b2 : 1 ≤ v2 ∧ v2 ≤ 6) (b3 : 1 ≤ v3 ∧ v3 ≤ 6) (bw : 0 ≤ way ∧ way < 3) (bl : 0 ≤ late ∧ late < 2)
    (o : vl ≠ L + 1 ∧ vl ≠ L + 1 + 1 ∧ vl ≠ L + 1 + 1 + 1 ∧ vl ≠ 126 ∧ vl ≠ 119 ∧ vl ≠ 69 ∧ @LT.lt Nat _ 126 L) : Inv3 P h₀ L s { s with heap := h, toks := tk } :=
  fun _ k => k h tk u vl ua la nsU nsL ntU ntL v0 v1 v2 v3 way late vv tl tw e ot os ow ct cz ta vg vt va F (fun p hp => N p (hsub p hp)) (WU.mono sU) (WL.mono sL) hl hi hw ht hz b0 b1 b2 b3 bw bl o hta
end
theorem kw_E3b : True := (by k_with_none; w_top off; exact trivial)
section
open PySem PySem.W PyProof.Rows PySem.Calls PyProof.V PySem.Spec
noncomputable def EndF (h₀ : Heap) (L : Addr) (J : (PySem.Str → Option PySem.Value) → List (Addr × PySem.Obj) → Prop) (own : List (Addr × PySem.Obj)) (os₀ : OsState) (s' : Shared) : Prop :=
  ∃ h gs dr tk m' news' nx, s' = { heap := h, gens := gs, drawn := dr, toks := tk, os := os₀ } ∧ AllBare gs ∧ Fr h₀ L h m' ∧ News h₀ L h news' ∧ (∀ p ∈ nx, p ∈ news') ∧ (∀ p ∈ own, p ∈ news') ∧ OwnOff own (nx.map (·.1)) ∧ J m' nx
noncomputable def PostF (h₀ : Heap) (L : Addr) (J : (PySem.Str → Option PySem.Value) → List (Addr × PySem.Obj) → Prop) (own : List (Addr × PySem.Obj)) (os₀ : OsState) (Q : Flow → Shared → Prop) (f : Flow) (s' : Shared) : Prop :=
  match f with
  | .ret v => Q (.ret v) s'
  | .brk => Q .next s'
  | _ => EndF h₀ L J own os₀ s'
section
variable {prog : PySem.Program} {w : World} {A : Around} {E : PySem.Value → Shared → Prop} {s : Shared} {env : Env} {h₀ : Heap} {target : PySem.Expr} {body : List Stmt} {Q : Flow → Shared → Prop}
theorem loopF {I : Addr} {n : Nat} {P : Nat → PySem.Value → Prop} {St : Nat → Heap → Prop} {m : PySem.Str → Option PySem.Value} {news : List (Addr × PySem.Obj)}
    (J : Nat → (PySem.Str → Option PySem.Value) → List (Addr × PySem.Obj) → Prop)
    (W : Walks prog w A I [I] [I] n P St) (hob : ∀ i h, St i h → ∃ o, h.get? I = some o ∧ NotRec o)
    (hLf : env.locals ≠ I) (hI : h₀.get? I = none) (hnI : ∀ p ∈ news, p.1 ≠ I) (hG : AllBare s.gens)
    (hst : St 0 s.heap) (F : Fr h₀ env.locals s.heap m) (N : News h₀ env.locals s.heap news) (hj : J 0 m news)
    (ht : ∀ v, letOwnedTupleGo target (.ref I) v = pure ()) (hE : PassesOwn (model prog w) A env E)
    (turn : ∀ i v m₁ nx h gs dr tk o, i < n → P i v → J i m₁ nx → AllBare gs → NotRec o → OwnOff [(I, o)] (nx.map (·.1)) → Fr h₀ env.locals h m₁ → News h₀ env.locals h (nx ++ [(I, o)]) →
      wpAny (model prog w) A (assign target env v) (fun _ s₂ => wpAny (model prog w) A (execs body env) (PostF h₀ env.locals (J (i + 1)) [(I, o)] s.os Q) E s₂) E { heap := h, gens := gs, drawn := dr, toks := tk, os := s.os })
    (done : ∀ m₁ nx h gs dr tk, J n m₁ nx → AllBare gs → Fr h₀ env.locals h m₁ → News h₀ env.locals h nx → Q .next { heap := h, gens := gs, drawn := dr, toks := tk, os := s.os }) :
    LoopK prog w A E env target body Q (.ref I) s := by
  have hLI : I ≠ env.locals := fun e => hLf e.symm
  refine codeAny_forLoop
    (fun k s' => ∃ h' gs dr tk m' nx i, s' = { heap := h', gens := gs, drawn := dr, toks := tk, os := s.os } ∧ AllBare gs ∧ St i h' ∧ Fr h₀ env.locals h' m' ∧ News h₀ env.locals h' nx ∧ (∀ p ∈ nx, p.1 ≠ I) ∧ J i m' nx ∧ i ≤ n ∧ k = n + 1 - i) ?_ (n + 1)
    ⟨s.heap, s.gens, s.drawn, s.toks, m, news, 0, rfl, hG, hst, F, N, hnI, hj, Nat.zero_le _, rfl⟩ ht
  rintro k s' ⟨h', gs, dr, tk, m', nx, i, rfl, hGs, hst', F', N', hnw', hJ, hi, rfl⟩
  have next : ∀ h₁ : Heap, (∀ b o, b ∉ [I] → h'.get? b = some o → h₁.get? b = some o) → Fr h₀ env.locals h₁ m' ∧ News h₀ env.locals h₁ nx := fun h₁ hk₁ =>
    ⟨⟨F'.ns.at' fun o e => hk₁ _ o (fun q => hLI (List.mem_singleton.mp q).symm) e, fun b o e => hk₁ b o (fun q => by rw [List.mem_singleton.mp q, hI] at e; cases e) (F'.keep b o e), F'.above⟩,
      fun p hp => ⟨hk₁ _ _ (fun q => hnw' p hp (List.mem_singleton.mp q)) (N' p hp).1, (N' p hp).2⟩⟩
  by_cases hlt : i < n
  · refine W.item i _ _ _ hlt hst' fun v h₁ tk₁ hP hst₁ hk₁ => ?_
    obtain ⟨F₁, N₁⟩ := next h₁ hk₁
    obtain ⟨o, ho, hor⟩ := hob _ _ hst₁
    have hoff : OwnOff [(I, o)] (nx.map (·.1)) := by
      intro p hp b hb e
      obtain ⟨q, hq, rfl⟩ := List.mem_map.mp hb
      rw [List.mem_singleton.mp hp] at e
      exact hnw' q hq e.symm
    have N₁' : News h₀ env.locals h₁ (nx ++ [(I, o)]) := fun p hp => by
      rcases List.mem_append.mp hp with hp | hp
      · exact N₁ p hp
      · rw [List.mem_singleton.mp hp]; exact ⟨ho, hLI, hI⟩
    refine wpAny_mono (turn i v m' nx h₁ gs dr tk₁ o hlt hP hJ hGs hor hoff F₁ N₁') (fun _ s₂ h₂ => wpAny_mono h₂ (fun f s₃ h₃ => ?_) hE) hE
    have fin : EndF h₀ env.locals (J (i + 1)) [(I, o)] s.os s₃ → ∃ k', k' < n + 1 - i ∧ ∃ h' gs dr tk m' nx i, s₃ = { heap := h', gens := gs, drawn := dr, toks := tk, os := s.os } ∧ AllBare gs ∧ St i h' ∧ Fr h₀ env.locals h' m' ∧ News h₀ env.locals h' nx ∧ (∀ p ∈ nx, p.1 ≠ I) ∧ J i m' nx ∧ i ≤ n ∧ k' = n + 1 - i := by
      rintro ⟨h₃', gs₃, dr₃, tk₃, m₂, news', nx', rfl, hG₃, F₃, N₃, hn, ho₃, hoff₃, hJ₃⟩
      refine ⟨n + 1 - (i + 1), by lia, h₃', gs₃, dr₃, tk₃, m₂, nx', i + 1, rfl, hG₃, ?_, F₃, fun p hp => N₃ p (hn p hp), ?_, hJ₃, hlt, rfl⟩
      · refine W.frame _ _ _ hst₁ fun b hb o' e => ?_
        have hbI := List.mem_singleton.mp hb
        subst hbI; rw [ho] at e; cases e
        exact (N₃ _ (ho₃ _ (.head _))).1
      · intro p hp e
        exact hoff₃ (I, o) (.head _) p.1 (List.mem_map_of_mem hp) e.symm
    cases f with
    | ret v => exact h₃
    | brk => exact h₃
    | next => exact fin h₃
    | cont => exact fin h₃
  · have hin : i = n := by lia
    subst hin
    refine W.done _ _ _ hst' fun h₁ tk₁ hk₁ => wpAny_execs_nil ?_
    obtain ⟨F₁, N₁⟩ := next h₁ hk₁
    exact done m' nx h₁ gs dr tk₁ hJ hGs F₁ N₁
theorem rangeF {r : Addr} {a₀ b₀ : Int} {t₀ u₀ v₀ : Tok} {n : Nat} {m : PySem.Str → Option PySem.Value} {news : List (Addr × PySem.Obj)}
    (J : Nat → (PySem.Str → Option PySem.Value) → List (Addr × PySem.Obj) → Prop)
    (hh : A.handled = none) (hr : IsRange s.heap r a₀ b₀ 1 t₀ u₀ v₀) (hsmall : Builtin.Range.small a₀ b₀ 1 = true) (hsz : Builtin.Range.rangeSize a₀ b₀ 1 = (n : Int))
    (F : Fr h₀ env.locals s.heap m) (N : News h₀ env.locals s.heap news) (hj : J 0 m news) (hG : AllBare s.gens)
    (ht : ∀ v, letOwnedTupleGo target (.ref s.heap.objs.size) v = pure ()) (hE : PassesOwn (model prog w) A env E)
    (turn : ∀ (i : Nat) (k : Int) t m₁ nx h gs dr tk I o, i < n → k = a₀ + i → J i m₁ nx → AllBare gs → NotRec o → OwnOff [(I, o)] (nx.map (·.1)) → Fr h₀ env.locals h m₁ → News h₀ env.locals h (nx ++ [(I, o)]) →
      wpAny (model prog w) A (assign target env (.int k t)) (fun _ s₂ => wpAny (model prog w) A (execs body env) (PostF h₀ env.locals (J (i + 1)) [(I, o)] s.os Q) E s₂) E { heap := h, gens := gs, drawn := dr, toks := tk, os := s.os })
    (done : ∀ m₁ nx h gs dr tk, J n m₁ nx → AllBare gs → Fr h₀ env.locals h m₁ → News h₀ env.locals h nx → Q .next { heap := h, gens := gs, drawn := dr, toks := tk, os := s.os }) :
    wpAny (model prog w) A (pyIter (.ref r)) (fun it s₂ => LoopK prog w A E env target body Q it s₂) E s := by
  refine wpAny_pyIter_range hr hsmall ?_
  have W : Walks prog w A s.heap.objs.size [s.heap.objs.size] [s.heap.objs.size] n (fun i v => i < n ∧ ∃ t, v = .int (a₀ + i * 1) t)
      (fun i h => IsRangeIter h s.heap.objs.size (a₀ + (i : Nat) * 1) ((n : Int) - (i : Nat)) 1) := (Walks.range hh _ a₀ 1 n).bound
  refine loopF J W (fun i h hi => ⟨_, hi, fun vs h q t e => by cases h; cases e⟩) ?_ (next_is_new F) ?_ hG (by show IsRangeIter _ _ _ _ _; rw [hsz]; simpa using Heap.get?_push_size _ rfl) (F.push _) (fun p hp => ⟨Heap.get?_push_of_some _ (N p hp).1, (N p hp).2⟩) hj ht hE ?_ done
  · intro hm
    exact absurd F.ns.lt (hm ▸ Nat.lt_irrefl _)
  · intro p hp hI
    exact absurd (Heap.lt_size (N p hp).1) (hI ▸ Nat.lt_irrefl _)
  · rintro i v m₁ nx h gs dr tk o hi ⟨_, t, rfl⟩ hJ hGs hor hoff F₁ N₁
    exact turn i _ t m₁ nx h gs dr tk _ o hi (by lia) hJ hGs hor hoff F₁ N₁
end
section
variable {w : World} {mean : ExcName → Option PySem.Value} {mg mb : PySem.Str → Option PySem.Value} {dp un : Nat} {gd : Option (List Code)} {cn : PySem.Str} {cs : Scope} {a : Addr} {ccd : PySem.Value} {cl : List (PySem.Str × Addr)} {outer : List Env} {A₀ : Around} {base h₀ : Heap} {L : Addr} {m : PySem.Str → Option PySem.Value} {news : List (Addr × PySem.Obj)} {s : Shared}
    {Q E : PySem.Value → Shared → Prop}
theorem div_exact {x b q : Int} (hb : 1 ≤ b) (e : x = b * q) : x.fdiv b = q ∧ x.fmod b = 0 := by
  subst e
  have h0 : b ≠ 0 := by lia
  have h1 : (b * q).fdiv b = q := by rw [Int.mul_comm]; exact Int.mul_fdiv_cancel q h0
  have h2 := Int.fmod_add_mul_fdiv (b * q) b
  rw [h1] at h2
  exact ⟨h1, by lia⟩
theorem seat_spec {x b q : Int} {o1 o2 : PySem.Obj} {tx tb : Tok}
    (B : Below A₀ base outer h₀) (F : Fr h₀ L s.heap m) (X : (hd0.heap_1 w.params).In h₀) (N : News h₀ L s.heap ((119, o1) :: (126, o2) :: news)) (T : Top topProg LS mean mg mb h₀) (hk : cs.kind = .function)
    (C1 : CodeHd h₀ 123 119) (C2 : CodeHd h₀ 130 126) (hn1 : ∀ p ∈ news, p.1 ≠ 119) (hn2 : ∀ p ∈ news, p.1 ≠ 126) (S1 : TabSt (Str.ofString "_int2digits.<locals>.inner") 71 4 o1 news) (S2 : TabSt (Str.ofString "_digits2int.<locals>.inner") 86 4 o2 news)
    (hx : x = b * q) (hx0 : 0 ≤ x) (hx1 : x < 128) (hb : 1 ≤ b ∧ b ≤ 13)
    (hd : dp + 50 < recursionLimit) (hu : un + 700 < cLine)
    (hret : ∀ (D : Addr) (t1 t2 : Tok) (e : Nat) (o1' o2' : PySem.Obj) (tl : List (Addr × PySem.Obj)) h' tk', Fr h₀ L h' m → News h₀ L h' ((D, tupO [.int q t1, .int 0 t2] e) :: (119, o1') :: (126, o2') :: (tl ++ news)) → TabSt (Str.ofString "_int2digits.<locals>.inner") 71 4 o1' (tl ++ news) → TabSt (Str.ofString "_digits2int.<locals>.inner") 86 4 o2' (tl ++ news) → (∀ p ∈ tl, (∀ q ∈ news, p.1 ≠ q.1) ∧ p.1 ≠ 119 ∧ p.1 ≠ 126) → (∀ q ∈ tl ++ news, q.1 < D) ∧ (126 : Nat) < D → Q (.ref D) { s with heap := h', toks := tk' }) :
    wpAny (model PG w) (ktrTop dp un gd cn cs L a ccd cl outer) (call (.ref 145) [.int x tx, .int b tb]) Q E s := by
  obtain ⟨e1, e2⟩ := div_exact hb.1 hx
  have en : x = ((x.toNat : Nat) : Int) := by lia
  rw [en]
  refine intdiv_spec B F X N T hk C1 C2 hn1 hn2 S1 S2 (by lia) hb hd hu ?_
  rw [← en, e1, e2]
  exact hret
end
end
theorem kw_E4a : True := (by k_with_none; w_top off; exact trivial)
section
open PySem PySem.W PyProof.Rows PySem.Calls PyProof.V PySem.Spec
noncomputable def seatDats (S : Int → Int) (n : Nat) : List Dat := (rangeKs 1 n).map fun k => Dat.tuple [.int (S k), .int 0]
theorem seatDats_succ (S : Int → Int) (n : Nat) : seatDats S (n + 1) = seatDats S n ++ [Dat.tuple [.int (S (1 + n)), .int 0]] := by
  unfold seatDats rangeKs
  rw [List.range_succ, List.map_append, List.map_append]; rfl
theorem seatDats_len (S : Int → Int) (n : Nat) : (seatDats S n).length = n := by
  unfold seatDats; rw [List.length_map, rangeKs_length]
theorem ne_of119 {L : Addr} (h : @LT.lt Nat _ 126 L) : (119 : Nat) ≠ L + 1 + 1 := by have := h; lia
theorem ne_of126 {L : Addr} (h : @LT.lt Nat _ 126 L) : (126 : Nat) ≠ L + 1 + 1 := by have := h; lia
theorem ne_of69 {L : Addr} (h : @LT.lt Nat _ 126 L) : (69 : Nat) ≠ L + 1 + 1 := by have := h; lia
theorem far119 {x : Addr} (h : @LT.lt Nat _ 126 x) : x ≠ (119 : Nat) := by have := h; intro e; subst e; lia
theorem above1 {L : Addr} (h : @LT.lt Nat _ 126 L) : @LT.lt Nat _ 126 (L + 1) := Nat.lt_succ_of_lt h
theorem above2 {L : Addr} (h : @LT.lt Nat _ 126 L) : @LT.lt Nat _ 126 (L + 1 + 1) := Nat.lt_succ_of_lt (Nat.lt_succ_of_lt h)
theorem above3 {L : Addr} (h : @LT.lt Nat _ 126 L) : @LT.lt Nat _ 126 (L + 1 + 1 + 1) := Nat.lt_succ_of_lt (Nat.lt_succ_of_lt (Nat.lt_succ_of_lt h))
noncomputable abbrev adr8 (L sl vl : Addr) : List Addr := [119, 126, sl, L + 1 + 1, vl, L + 1 + 1 + 1, L + 1, 69]
noncomputable def SeatJ (m0 : PySem.Str → Option PySem.Value) (L sl vl : Addr) (vv : List PySem.Value) (e : Nat) (ot ow : PySem.Obj) (ta : List (Addr × PySem.Obj)) (S : Int → Int) (i : Nat) (m : PySem.Str → Option PySem.Value) (nx : List (Addr × PySem.Obj)) : Prop :=
  m = m0 ∧ ∃ (vs : List PySem.Value) (es : Nat) (o1 o2 oz : PySem.Obj) (cz : Option PySem.Value) (tl : List (Addr × PySem.Obj)),
    nx = (119, o1) :: (126, o2) :: (sl, listOf vs.toArray es) :: (L + 1 + 1, oz) :: (vl, listOf vv.toArray e) :: (L + 1 + 1 + 1, ot) :: (L + 1, ow) :: (69, tabObj #[]) :: (ta ++ tl) ∧
    oz.data = .cell cz ∧ TabSt (Str.ofString "_int2digits.<locals>.inner") 71 4 o1 (ta ++ tl) ∧ TabSt (Str.ofString "_digits2int.<locals>.inner") 86 4 o2 (ta ++ tl) ∧ DatAll tl vs (seatDats S i) ∧ OwnOff tl (adr8 L sl vl)
theorem NotRec.cell {o : PySem.Obj} {c : Option PySem.Value} (h : o.data = .cell c) : NotRec o := fun vs e => by rw [h] at e; cases e
theorem tab_keep {q : PySem.Str} {a b : Int} {o : PySem.Obj} {L sl vl D I : Addr} {vs vv : List PySem.Value} {es e : Nat} {oz ot ow oI tup : PySem.Obj} {cz ct cw : Option PySem.Value} {ta tl tl' : List (Addr × PySem.Obj)}
    (h : TabSt q a b o (tl' ++ ((sl, listOf vs.toArray es) :: (L + 1 + 1, oz) :: (vl, listOf vv.toArray e) :: (L + 1 + 1 + 1, ot) :: (L + 1, ow) :: (69, tabObj #[]) :: (ta ++ tl ++ [(I, oI)]))))
    (hz : oz.data = .cell cz) (ht : ot.data = .cell ct) (hw : ow.data = .cell cw) (hI : NotRec oI) : TabSt q a b o (ta ++ ((D, tup) :: (tl ++ tl'))) := by
  refine h.off fun p hp => ?_
  simp only [List.mem_append, List.mem_cons, List.not_mem_nil, or_false] at hp
  rcases hp with hp | rfl | rfl | rfl | rfl | rfl | rfl | (hp | hp) | rfl
  · exact .inl (by simp [hp])
  · exact .inr NotRec.list
  · exact .inr (NotRec.cell hz)
  · exact .inr NotRec.list
  · exact .inr (NotRec.cell ht)
  · exact .inr (NotRec.cell hw)
  · exact .inr (NotRec.tab (q := q) (a := a) (b := b) (nw := []) (.inl rfl))
  · exact .inl (by simp [hp])
  · exact .inl (by simp [hp])
  · exact .inr hI
section
variable {h₀ h : Heap} {L sl vl D I : Addr} {m0 : PySem.Str → Option PySem.Value} {vs vv : List PySem.Value} {es e ed : Nat} {o1 o2 oz ot ow oI : PySem.Obj} {cz ct cw : Option PySem.Value} {ta tl tl' : List (Addr × PySem.Obj)} {S : Int → Int} {i : Nat} {q : Int} {t1 t2 : Tok} {os₀ : OsState} {gs : Array GenState} {dr : Drawn} {tk : Nat}
theorem seat_end (hG : AllBare gs) (F : Fr h₀ L h m0)
    (N : News h₀ L h ((sl, listOf (vs.toArray.push (PySem.Value.ref D)) (es + 1)) :: (D, tupO [.int q t1, .int 0 t2] ed) :: (119, o1) :: (126, o2) :: (L + 1 + 1, oz) :: (vl, listOf vv.toArray e) :: (L + 1 + 1 + 1, ot) :: (L + 1, ow) :: (69, tabObj #[]) :: (ta ++ tl ++ tl' ++ [(I, oI)])))
    (hz : oz.data = .cell cz) (S1 : TabSt (Str.ofString "_int2digits.<locals>.inner") 71 4 o1 (ta ++ ((D, tupO [.int q t1, .int 0 t2] ed) :: (tl ++ tl')))) (S2 : TabSt (Str.ofString "_digits2int.<locals>.inner") 86 4 o2 (ta ++ ((D, tupO [.int q t1, .int 0 t2] ed) :: (tl ++ tl'))))
    (hD : DatAll tl vs (seatDats S i)) (hq : q = S (1 + i)) (o : OwnOff tl (adr8 L sl vl)) (o' : OwnOff tl' (adr8 L sl vl)) (oD : ∀ b ∈ adr8 L sl vl, D ≠ b) (oII : ∀ b ∈ adr8 L sl vl, I ≠ b) (oIa : ∀ p ∈ ta, p.1 ≠ I) (oIt : ∀ p ∈ tl, p.1 ≠ I) (oIt' : ∀ p ∈ tl', p.1 ≠ I) (oID : D ≠ I) :
    EndF h₀ L (SeatJ m0 L sl vl vv e ot ow ta S (i + 1)) [(I, oI)] os₀ { heap := h, gens := gs, drawn := dr, toks := tk, os := os₀ } := by
  have ea : listOf (vs.toArray.push (PySem.Value.ref D)) (es + 1) = listOf (vs ++ [PySem.Value.ref D]).toArray (es + 1) := by simp
  rw [ea] at N
  refine ⟨h, gs, dr, tk, m0, _, (119, o1) :: (126, o2) :: (sl, listOf (vs ++ [PySem.Value.ref D]).toArray (es + 1)) :: (L + 1 + 1, oz) :: (vl, listOf vv.toArray e) :: (L + 1 + 1 + 1, ot) :: (L + 1, ow) :: (69, tabObj #[]) :: (ta ++ ((D, tupO [.int q t1, .int 0 t2] ed) :: (tl ++ tl'))), rfl, hG, F, N, ?_, ?_, ?_, rfl, vs ++ [PySem.Value.ref D], es + 1, o1, o2, oz, cz, (D, tupO [.int q t1, .int 0 t2] ed) :: (tl ++ tl'), rfl, hz, S1, S2, ?_, ?_⟩
  · intro p hp
    refine sub_of hp ?_
    walk_at "sub"
  · intro p hp
    simp only [List.mem_append, List.mem_cons, List.not_mem_nil, or_false] at hp ⊢
    simp only [hp, true_or, or_true]
  · intro p hp b hb
    rw [List.mem_singleton.mp hp]
    simp only [List.map_cons, List.map_append, List.mem_append, List.mem_cons, List.mem_map] at hb
    rcases hb with hb | hb | hb | hb | hb | hb | hb | hb | ⟨q', hq', hb⟩ | hb | ⟨q', hq', hb⟩ | ⟨q', hq', hb⟩
    · exact oII b (by simp [hb])
    · exact oII b (by simp [hb])
    · exact oII b (by simp [hb])
    · exact oII b (by simp [hb])
    · exact oII b (by simp [hb])
    · exact oII b (by simp [hb])
    · exact oII b (by simp [hb])
    · exact oII b (by simp [hb])
    · exact hb ▸ (oIa q' hq').symm
    · exact hb ▸ oID.symm
    · exact hb ▸ (oIt q' hq').symm
    · exact hb ▸ (oIt' q' hq').symm
  · rw [seatDats_succ, ← hq]
    refine (hD.mono fun p hp => ?_).append (DatAll.one (DatIn.tuple (List.Mem.head _) (.cons (.int _ _) (.cons (.int _ _) .nil))))
    exact .tail _ (List.mem_append.mpr (.inl hp))
  · intro p hp b hb
    rcases List.mem_cons.mp hp with rfl | hp
    · exact oD b hb
    · rcases List.mem_append.mp hp with hp | hp
      · exact o p hp b hb
      · exact o' p hp b hb
end
section
variable {prog : PySem.Program} {w : World} {A : Around} {E : PySem.Value → Shared → Prop} {s : Shared} {h₀ : Heap} {Q : PySem.Value → Shared → Prop}
theorem seat_append {L sl vl D I : Addr} {m0 : PySem.Str → Option PySem.Value} {vs vv : List PySem.Value} {es e ed : Nat} {o1 o2 oz ot ow oI : PySem.Obj} {cz ct cw : Option PySem.Value} {ta tl tl' : List (Addr × PySem.Obj)} {S : Int → Int} {i : Nat} {q : Int} {t1 t2 : Tok} {os₀ : OsState}
    (F : Fr h₀ L s.heap m0)
    (N : News h₀ L s.heap ((D, tupO [.int q t1, .int 0 t2] ed) :: (119, o1) :: (126, o2) :: (tl' ++ ((sl, listOf vs.toArray es) :: (L + 1 + 1, oz) :: (vl, listOf vv.toArray e) :: (L + 1 + 1 + 1, ot) :: (L + 1, ow) :: (69, tabObj #[]) :: (ta ++ tl ++ [(I, oI)])))))
    (hz : oz.data = .cell cz) (ht : ot.data = .cell ct) (hw : ow.data = .cell cw) (hI : NotRec oI)
    (S1 : TabSt (Str.ofString "_int2digits.<locals>.inner") 71 4 o1 (tl' ++ ((sl, listOf vs.toArray es) :: (L + 1 + 1, oz) :: (vl, listOf vv.toArray e) :: (L + 1 + 1 + 1, ot) :: (L + 1, ow) :: (69, tabObj #[]) :: (ta ++ tl ++ [(I, oI)]))))
    (S2 : TabSt (Str.ofString "_digits2int.<locals>.inner") 86 4 o2 (tl' ++ ((sl, listOf vs.toArray es) :: (L + 1 + 1, oz) :: (vl, listOf vv.toArray e) :: (L + 1 + 1 + 1, ot) :: (L + 1, ow) :: (69, tabObj #[]) :: (ta ++ tl ++ [(I, oI)]))))
    (lq : ∀ p ∈ tl', (∀ q ∈ (sl, listOf vs.toArray es) :: (L + 1 + 1, oz) :: (vl, listOf vv.toArray e) :: (L + 1 + 1 + 1, ot) :: (L + 1, ow) :: (69, tabObj #[]) :: (ta ++ tl ++ [(I, oI)]), p.1 ≠ q.1) ∧ p.1 ≠ 119 ∧ p.1 ≠ 126)
    (lD : (∀ q ∈ tl' ++ ((sl, listOf vs.toArray es) :: (L + 1 + 1, oz) :: (vl, listOf vv.toArray e) :: (L + 1 + 1 + 1, ot) :: (L + 1, ow) :: (69, tabObj #[]) :: (ta ++ tl ++ [(I, oI)])), q.1 < D) ∧ (126 : Nat) < D)
    (hD : DatAll tl vs (seatDats S i)) (hq : q = S (1 + i)) (hi : i < 13) (o : OwnOff tl (adr8 L sl vl)) (oII : ∀ b ∈ adr8 L sl vl, I ≠ b) (oIa : ∀ p ∈ ta, p.1 ≠ I) (oIt : ∀ p ∈ tl, p.1 ≠ I)
    (asl : ∀ p ∈ ta, p.1 ≠ sl) (n1 : (119 : Nat) ≠ sl) (n2 : (126 : Nat) ≠ sl) (n3 : L + 1 + 1 ≠ sl) (n4 : vl ≠ sl) (n5 : L + 1 + 1 + 1 ≠ sl) (n6 : L + 1 ≠ sl) (n7 : (69 : Nat) ≠ sl)
    (h : ∀ h', Fr h₀ L h' m0 → (∀ gs dr tk, AllBare gs → EndF h₀ L (SeatJ m0 L sl vl vv e ot ow ta S (i + 1)) [(I, oI)] os₀ { heap := h', gens := gs, drawn := dr, toks := tk, os := os₀ }) → Q .none { s with heap := h' }) :
    wpAny (model prog w) A (call (.builtin "list.append") [.ref sl, .ref D]) Q E s := by
  have N4 : News h₀ L s.heap ((sl, listOf vs.toArray es) :: (D, tupO [.int q t1, .int 0 t2] ed) :: (119, o1) :: (126, o2) :: (L + 1 + 1, oz) :: (vl, listOf vv.toArray e) :: (L + 1 + 1 + 1, ot) :: (L + 1, ow) :: (69, tabObj #[]) :: (ta ++ tl ++ tl' ++ [(I, oI)])) := fun p hp => N p (by
    refine sub_of hp ?_
    walk_at "sub")
  have lDs : sl ≠ D := Nat.ne_of_lt (lD.1 (sl, _) (List.mem_append.mpr (.inr (.head _))))
  have hlen : vs.length ≤ 13 := by rw [hD.length, seatDats_len]; lia
  have lD8 : ∀ b ∈ adr8 L sl vl, D ≠ b := fun b hb => by
    simp only [List.mem_cons, List.not_mem_nil, or_false] at hb
    rcases hb with hb | hb | hb | hb | hb | hb | hb | hb
    · rw [hb]; exact far119 lD.2
    · rw [hb]; exact Nat.ne_of_gt lD.2
    · rw [hb]; exact lDs.symm
    · rw [hb]; exact Nat.ne_of_gt (lD.1 (L + 1 + 1, oz) (by first | walk_at "mem" | simp))
    · rw [hb]; exact Nat.ne_of_gt (lD.1 (vl, listOf vv.toArray e) (by first | walk_at "mem" | simp))
    · rw [hb]; exact Nat.ne_of_gt (lD.1 (L + 1 + 1 + 1, ot) (by first | walk_at "mem" | simp))
    · rw [hb]; exact Nat.ne_of_gt (lD.1 (L + 1, ow) (by first | walk_at "mem" | simp))
    · rw [hb]; exact Nat.ne_of_gt (lD.1 (69, tabObj #[]) (by first | walk_at "mem" | simp))
  have o' : OwnOff tl' (adr8 L sl vl) := fun p hp b hb => by
    have l := lq p hp
    simp only [List.mem_cons, List.not_mem_nil, or_false] at hb
    rcases hb with hb | hb | hb | hb | hb | hb | hb | hb
    · rw [hb]; exact l.2.1
    · rw [hb]; exact l.2.2
    · rw [hb]; exact l.1 (sl, _) (.head _)
    · rw [hb]; exact l.1 (L + 1 + 1, oz) (by first | walk_at "mem" | simp)
    · rw [hb]; exact l.1 (vl, listOf vv.toArray e) (by first | walk_at "mem" | simp)
    · rw [hb]; exact l.1 (L + 1 + 1 + 1, ot) (by first | walk_at "mem" | simp)
    · rw [hb]; exact l.1 (L + 1, ow) (by first | walk_at "mem" | simp)
    · rw [hb]; exact l.1 (69, tabObj #[]) (by first | walk_at "mem" | simp)
  have oIt' : ∀ p ∈ tl', p.1 ≠ I := fun p hp => (lq p hp).1 (I, oI) (by first | walk_at "mem" | simp)
  have oDI : D ≠ I := Nat.ne_of_gt (lD.1 (I, oI) (by first | walk_at "mem" | simp))
  have hall : ∀ p ∈ (D, tupO [.int q t1, .int 0 t2] ed) :: (119, o1) :: (126, o2) :: (L + 1 + 1, oz) :: (vl, listOf vv.toArray e) :: (L + 1 + 1 + 1, ot) :: (L + 1, ow) :: (69, tabObj #[]) :: (ta ++ tl ++ tl' ++ [(I, oI)]), p.1 ≠ sl := by
    intro p hp
    simp only [List.mem_cons, List.mem_append, List.not_mem_nil, or_false] at hp
    rcases hp with rfl | rfl | rfl | rfl | rfl | rfl | rfl | rfl | ((hp | hp) | hp) | rfl
    · exact lDs.symm
    · exact n1
    · exact n2
    · exact n3
    · exact n4
    · exact n5
    · exact n6
    · exact n7
    · exact asl p hp
    · exact o p hp _ (by first | walk_at "mem" | simp)
    · exact o' p hp _ (by first | walk_at "mem" | simp)
    · exact oII _ (by first | walk_at "mem" | simp)
  refine append_K F N4 (Upd.head hall) (fun h' F' N' => h h' F' fun gs dr tk hG => ?_) (by rw [List.size_toArray, sizeLine_eq]; lia)
  exact seat_end hG F' N' hz (tab_keep S1 hz ht hw hI) (tab_keep S2 hz ht hw hI) hD hq o o' lD8 oII oIa oIt oIt' oDI
end
section
variable {prog : PySem.Program} {w : World} {A : Around} {E : PySem.Value → Shared → Prop} {s : Shared} {env : Env} {h₀ : Heap} {target : PySem.Expr} {body : List Stmt} {Q : Flow → Shared → Prop}
theorem seats_loop {r : Addr} {t₀ u₀ v₀ : Tok} {m0 : PySem.Str → Option PySem.Value} {L sl vl : Addr} {vv : List PySem.Value} {e : Nat} {ot os ow : PySem.Obj} {cz : Option PySem.Value} {ta : List (Addr × PySem.Obj)} (S : Int → Int) (hL : env.locals = L)
    (hh : A.handled = none) (hr : IsRange s.heap r 1 14 1 t₀ u₀ v₀) (F : Fr h₀ L s.heap m0)
    (N : News h₀ L s.heap ((sl, listOf #[] 0) :: (vl, listOf vv.toArray e) :: (L + 1 + 1 + 1, ot) :: (L + 1 + 1, os) :: (L + 1, ow) :: (126, tabObj #[]) :: (119, tabObj #[]) :: (69, tabObj #[]) :: ta))
    (hz : os.data = .cell cz) (hG : AllBare s.gens)
    (ht : ∀ v, letOwnedTupleGo target (.ref s.heap.objs.size) v = pure ()) (hE : PassesOwn (model prog w) A env E)
    (turn : ∀ (i : Nat) (k : Int) t (vs : List PySem.Value) (es : Nat) (o1 o2 oz : PySem.Obj) (cz : Option PySem.Value) (tl : List (Addr × PySem.Obj)) h gs dr tk I o, i < 13 → k = 1 + i → AllBare gs → NotRec o → oz.data = .cell cz →
      TabSt (Str.ofString "_int2digits.<locals>.inner") 71 4 o1 (ta ++ tl) → TabSt (Str.ofString "_digits2int.<locals>.inner") 86 4 o2 (ta ++ tl) → DatAll tl vs (seatDats S i) → OwnOff tl (adr8 L sl vl) → (∀ b ∈ adr8 L sl vl, I ≠ b) → (∀ p ∈ ta, p.1 ≠ I) → (∀ p ∈ tl, p.1 ≠ I) → Fr h₀ L h m0 →
      News h₀ L h ((119, o1) :: (126, o2) :: (sl, listOf vs.toArray es) :: (L + 1 + 1, oz) :: (vl, listOf vv.toArray e) :: (L + 1 + 1 + 1, ot) :: (L + 1, ow) :: (69, tabObj #[]) :: (ta ++ tl ++ [(I, o)])) →
      wpAny (model prog w) A (assign target env (.int k t)) (fun _ s₂ => wpAny (model prog w) A (execs body env) (PostF h₀ L (SeatJ m0 L sl vl vv e ot ow ta S (i + 1)) [(I, o)] s.os Q) E s₂) E { heap := h, gens := gs, drawn := dr, toks := tk, os := s.os })
    (done : ∀ (vs : List PySem.Value) (es : Nat) (o1 o2 oz : PySem.Obj) (cz : Option PySem.Value) (tl : List (Addr × PySem.Obj)) h gs dr tk, AllBare gs → oz.data = .cell cz →
      TabSt (Str.ofString "_int2digits.<locals>.inner") 71 4 o1 (ta ++ tl) → TabSt (Str.ofString "_digits2int.<locals>.inner") 86 4 o2 (ta ++ tl) → DatAll tl vs (seatDats S 13) → OwnOff tl (adr8 L sl vl) → Fr h₀ L h m0 →
      News h₀ L h ((119, o1) :: (126, o2) :: (sl, listOf vs.toArray es) :: (L + 1 + 1, oz) :: (vl, listOf vv.toArray e) :: (L + 1 + 1 + 1, ot) :: (L + 1, ow) :: (69, tabObj #[]) :: (ta ++ tl)) →
      Q .next { heap := h, gens := gs, drawn := dr, toks := tk, os := s.os }) :
    wpAny (model prog w) A (pyIter (.ref r)) (fun it s₂ => LoopK prog w A E env target body Q it s₂) E s := by
  subst hL
  have N' : News h₀ env.locals s.heap ((119, tabObj #[]) :: (126, tabObj #[]) :: (sl, listOf (List.toArray []) 0) :: (env.locals + 1 + 1, os) :: (vl, listOf vv.toArray e) :: (env.locals + 1 + 1 + 1, ot) :: (env.locals + 1, ow) :: (69, tabObj #[]) :: (ta ++ [])) := fun p hp => N p (by
    refine sub_of hp ?_
    walk_at "sub")
  refine rangeF (n := 13) (SeatJ m0 env.locals sl vl vv e ot ow ta S) hh hr (by decide) (by rfl) F N' ⟨rfl, [], 0, _, _, _, cz, [], rfl, hz, .inl rfl, .inl rfl, .nil, fun _ h => nomatch h⟩ hG ht hE ?_ ?_
  · rintro i k t m₁ nx h gs dr tk I o hi hk ⟨rfl, vs, es, o1, o2, oz, cz, tl, rfl, hz, S1, S2, hD, hoff⟩ hGs hor hI F₁ N₁
    have hI' := hI _ (.head _)
    refine turn i k t vs es o1 o2 oz cz tl h gs dr tk I o hi hk hGs hor hz S1 S2 hD hoff (fun b hb => hI' b ?_) (fun p hp => (hI' p.1 ?_).symm) (fun p hp => (hI' p.1 ?_).symm) F₁ (by simpa using N₁)
    · simp only [List.mem_cons, List.not_mem_nil, or_false] at hb
      simp only [List.map_cons, List.mem_cons]
      rcases hb with hb | hb | hb | hb | hb | hb | hb | hb <;> simp only [hb, true_or, or_true]
    · simp only [List.map_cons, List.mem_cons, List.map_append, List.mem_append]
      simp only [List.mem_map_of_mem hp, true_or, or_true]
    · simp only [List.map_cons, List.mem_cons, List.map_append, List.mem_append]
      simp only [List.mem_map_of_mem hp, true_or, or_true]
  · rintro m₁ nx h gs dr tk ⟨rfl, vs, es, o1, o2, oz, cz, tl, rfl, hz, S1, S2, hD, hoff⟩ hGs F₁ N₁
    exact done vs es o1 o2 oz cz tl h gs dr tk hGs hz S1 S2 hD hoff F₁ N₁
end
/-- behind the seats loop -/
noncomputable def Inv4 (h₀ : Heap) (L : Addr) (s s' : Shared) : Prop :=
  ∀ C : Shared → Prop, (∀ (h : Heap) (gs : Array GenState) (dr : Drawn) (tk : Nat) (u : PySem.Str → Option PySem.Value) (vl sl : Addr) (v0 v1 v2 v3 way late : Int) (vv vs : List PySem.Value) (tl tw : Tok) (e es : Nat) (o1 o2 oz ot ow : PySem.Obj) (ct cz : Option PySem.Value) (ta : List (Addr × PySem.Obj)) (xl xu vg vt va : PySem.Value), (AllBare gs) → (Fr h₀ L h (fun y => if y = Str.ofString "seats" then some (.ref sl) else if y = Str.ofString "lower" then some xl else if y = Str.ofString "upper" then some xu else if y = Str.ofString "gains" then some vg else if y = Str.ofString "together" then some vt else if y = Str.ofString "apart" then some va else if y = Str.ofString "late" then some (.int late tl) else if y = Str.ofString "votes" then some (.ref vl) else u y)) → (News h₀ L h ((119, o1) :: (126, o2) :: (sl, listOf vs.toArray es) :: (L + 1 + 1, oz) :: (vl, listOf vv.toArray e) :: (L + 1 + 1 + 1, ot) :: (L + 1, ow) :: (69, tabObj #[]) :: ta)) → (TabSt (Str.ofString "_int2digits.<locals>.inner") 71 4 o1 ta) → (TabSt (Str.ofString "_digits2int.<locals>.inner") 86 4 o2 ta) → (DatAll ta vs (seatDats (fun k => seatsI way v0 v1 v2 v3 k) 13)) → (IntsAre vv [v0, v1, v2, v3]) → (ow.data = .cell (some (.int way tw))) → (ot.data = .cell ct) → (oz.data = .cell cz) → ((1 ≤ v0 ∧ v0 ≤ 6)) → ((1 ≤ v1 ∧ v1 ≤ 6)) → ((1 ≤ v2 ∧ v2 ≤ 6)) → ((1 ≤ v3 ∧ v3 ≤ 6)) → ((0 ≤ way ∧ way < 3)) → ((0 ≤ late ∧ late < 2)) → ((∀ p ∈ (119, o1) :: (126, o2) :: (sl, listOf vs.toArray es) :: (vl, listOf vv.toArray e) :: (L + 1, ow) :: (69, tabObj #[]) :: ta, p.1 ≠ L + 1 + 1 ∧ p.1 ≠ L + 1 + 1 + 1)) → ((∀ p ∈ (119, o1) :: (126, o2) :: (sl, listOf vs.toArray es) :: (L + 1 + 1, oz) :: (vl, listOf vv.toArray e) :: (L + 1 + 1 + 1, ot) :: (L + 1, ow) :: ta, p.1 ≠ 69)) → C { heap := h, gens := gs, drawn := dr, toks := tk, os := s.os }) → C s'
theorem inv4_of {h₀ h : Heap} {L : Addr} {s : Shared} {gs : Array GenState} {dr : Drawn} {tk : Nat} {u : PySem.Str → Option PySem.Value} {vl sl : Addr} {v0 v1 v2 v3 way late : Int} {vv vs : List PySem.Value} {tl tw : Tok} {e es : Nat} {o1 o2 oz ot ow : PySem.Obj} {ct cz : Option PySem.Value} {ta tl' : List (Addr × PySem.Obj)} {xl xu vg vt va : PySem.Value}
    (hG : AllBare gs) (F : Fr h₀ L h (fun y => if y = Str.ofString "seats" then some (.ref sl) else if y = Str.ofString "lower" then some xl else if y = Str.ofString "upper" then some xu else if y = Str.ofString "gains" then some vg else if y = Str.ofString "together" then some vt else if y = Str.ofString "apart" then some va else if y = Str.ofString "late" then some (.int late tl) else if y = Str.ofString "votes" then some (.ref vl) else u y))
    (N : News h₀ L h ((119, o1) :: (126, o2) :: (sl, listOf vs.toArray es) :: (L + 1 + 1, oz) :: (vl, listOf vv.toArray e) :: (L + 1 + 1 + 1, ot) :: (L + 1, ow) :: (69, tabObj #[]) :: (ta ++ tl')))
    (S1 : TabSt (Str.ofString "_int2digits.<locals>.inner") 71 4 o1 (ta ++ tl')) (S2 : TabSt (Str.ofString "_digits2int.<locals>.inner") 86 4 o2 (ta ++ tl'))
    (hD : DatAll tl' vs (seatDats (fun k => seatsI way v0 v1 v2 v3 k) 13)) (hi : IntsAre vv [v0, v1, v2, v3]) (o : OwnOff tl' (adr8 L sl vl))
    (hw : ow.data = .cell (some (.int way tw))) (ht : ot.data = .cell ct) (hz : oz.data = .cell cz)
    (b0 : 1 ≤ v0 ∧ v0 ≤ 6) (b1 : 1 ≤ v1 ∧ v1 ≤ 6) (b2 : 1 ≤ v2 ∧ v2 ≤ 6) (b3 : 1 ≤ v3 ∧ v3 ≤ 6) (bw : 0 ≤ way ∧ way < 3) (bl : 0 ≤ late ∧ late < 2)
    (ovl : vl ≠ L + 1 ∧ vl ≠ L + 1 + 1 ∧ vl ≠ L + 1 + 1 + 1 ∧ vl ≠ 126 ∧ vl ≠ 119 ∧ vl ≠ 69 ∧ @LT.lt Nat _ 126 L) (lta : ∀ p ∈ ta, L + 1 + 1 + 1 < p.1) (lsl : L + 1 + 1 + 1 < sl) :
    Inv4 h₀ L s { heap := h, gens := gs, drawn := dr, toks := tk, os := s.os } := by
  have L0 := ovl.2.2.2.2.2.2
  have far : ∀ x : Addr, L + 1 + 1 + 1 < x → x ≠ L + 1 + 1 ∧ x ≠ L + 1 + 1 + 1 ∧ x ≠ (69 : Nat) := fun x hx => by
    refine ⟨fun e => ?_, fun e => ?_, fun e => ?_⟩
    · exact absurd (Nat.lt_trans (Nat.lt_succ_self _) hx) (by rw [e]; exact Nat.lt_irrefl _)
    · exact absurd hx (by rw [e]; exact Nat.lt_irrefl _)
    · subst e; exact absurd (Nat.lt_trans (above3 L0) hx) (by decide)
  have f69 : ∀ x : Addr, @LT.lt Nat _ 126 x → x ≠ (69 : Nat) := fun x hx e => by subst e; exact absurd hx (by decide)
  refine fun _ k => k h gs dr tk u vl sl v0 v1 v2 v3 way late vv vs tl tw e es o1 o2 oz ot ow ct cz (ta ++ tl') xl xu vg vt va hG F N S1 S2 (hD.mono (fun p hp => List.mem_append.mpr (.inr hp))) hi hw ht hz b0 b1 b2 b3 bw bl (fun p hp => ?_) (fun p hp => ?_)
  · simp only [List.mem_cons, List.mem_append] at hp
    rcases hp with hp | hp | hp | hp | hp | hp | hp | hp
    · rw [hp]; exact ⟨ne_of119 L0, Nat.ne_of_lt (Nat.lt_trans (show (119 : Nat) < 126 by decide) (above3 L0))⟩
    · rw [hp]; exact ⟨ne_of126 L0, Nat.ne_of_lt (above3 L0)⟩
    · rw [hp]; exact ⟨(far _ lsl).1, (far _ lsl).2.1⟩
    · rw [hp]; exact ⟨ovl.2.1, ovl.2.2.1⟩
    · rw [hp]; exact ⟨(Nat.succ_ne_self _).symm, Nat.ne_of_lt (Nat.lt_succ_of_lt (Nat.lt_succ_self _))⟩
    · rw [hp]; exact ⟨ne_of69 L0, Nat.ne_of_lt (Nat.lt_trans (show (69 : Nat) < 126 by decide) (above3 L0))⟩
    · exact ⟨(far _ (lta p hp)).1, (far _ (lta p hp)).2.1⟩
    · exact ⟨o p hp _ (by first | walk_at "mem" | simp), o p hp _ (by first | walk_at "mem" | simp)⟩
  · simp only [List.mem_cons, List.mem_append] at hp
    rcases hp with hp | hp | hp | hp | hp | hp | hp | hp | hp
    · rw [hp]; exact (show (119 : Nat) ≠ 69 by decide)
    · rw [hp]; exact (show (126 : Nat) ≠ 69 by decide)
    · rw [hp]; exact (far _ lsl).2.2
    · rw [hp]; exact f69 _ (above2 L0)
    · rw [hp]; exact ovl.2.2.2.2.2.1
    · rw [hp]; exact f69 _ (above3 L0)
    · rw [hp]; exact f69 _ (above1 L0)
    · exact (far _ (lta p hp)).2.2
    · exact o p hp _ (by first | walk_at "mem" | simp)
end
theorem kw_E5a : True := (by k_with_none; w_top off; exact trivial)
section
open PySem PySem.W PyProof.Rows PySem.Calls PyProof.V PySem.Spec
noncomputable def letter (b : Nat) : PySem.Str := ⟨#[97 + b]⟩
noncomputable def lets (bs : List Nat) : List PySem.Str := bs.map letter
/-- behind bench and held -/
noncomputable def Inv5 (P : PySem.Params) (h₀ : Heap) (L : Addr) (s s' : Shared) : Prop :=
  ∀ C : Shared → Prop, (∀ (h : Heap) (gs : Array GenState) (dr : Drawn) (tk : Nat) (u : PySem.Str → Option PySem.Value) (x dx hl vl sl : Addr) (v0 v1 v2 v3 way late : Int) (vv vs : List PySem.Value) (tl tw tx1 tx2 c0 c1 c2 c3 : Tok) (e es : Nat) (o1 o2 oz ot ow : PySem.Obj) (ct cz : Option PySem.Value) (ta cs : List (Addr × PySem.Obj)) (xl xu vg vt va : PySem.Value), (AllBare gs) → (Fr h₀ L h (fun y => if y = Str.ofString "held" then some (.ref hl) else if y = Str.ofString "bench" then some (.ref x) else if y = Str.ofString "seats" then some (.ref sl) else if y = Str.ofString "lower" then some xl else if y = Str.ofString "upper" then some xu else if y = Str.ofString "gains" then some vg else if y = Str.ofString "together" then some vt else if y = Str.ofString "apart" then some va else if y = Str.ofString "late" then some (.int late tl) else if y = Str.ofString "votes" then some (.ref vl) else u y)) → (cs = (119, o1) :: (126, o2) :: (sl, listOf vs.toArray es) :: (L + 1 + 1, oz) :: (vl, listOf vv.toArray e) :: (L + 1 + 1 + 1, ot) :: (L + 1, ow) :: (69, tabObj #[]) :: ta) → (News h₀ L h ((x, accObj 99 dx [] 0) :: (dx, accD P tx1 tx2) :: (hl, listOf #[.int 0 c0, .int 0 c1, .int 0 c2, .int 0 c3] 0) :: cs)) → (TabSt (Str.ofString "_int2digits.<locals>.inner") 71 4 o1 ta) → (TabSt (Str.ofString "_digits2int.<locals>.inner") 86 4 o2 ta) → (DatAll ta vs (seatDats (fun k => seatsI way v0 v1 v2 v3 k) 13)) → (IntsAre vv [v0, v1, v2, v3]) → (ow.data = .cell (some (.int way tw))) → (ot.data = .cell ct) → (oz.data = .cell cz) → ((1 ≤ v0 ∧ v0 ≤ 6)) → ((1 ≤ v1 ∧ v1 ≤ 6)) → ((1 ≤ v2 ∧ v2 ≤ 6)) → ((1 ≤ v3 ∧ v3 ≤ 6)) → ((0 ≤ way ∧ way < 3)) → ((0 ≤ late ∧ late < 2)) → ((∀ p ∈ (119, o1) :: (126, o2) :: (sl, listOf vs.toArray es) :: (vl, listOf vv.toArray e) :: (L + 1, ow) :: (69, tabObj #[]) :: ta, p.1 ≠ L + 1 + 1 ∧ p.1 ≠ L + 1 + 1 + 1)) → ((∀ p ∈ (119, o1) :: (126, o2) :: (sl, listOf vs.toArray es) :: (L + 1 + 1, oz) :: (vl, listOf vv.toArray e) :: (L + 1 + 1 + 1, ot) :: (L + 1, ow) :: ta, p.1 ≠ 69)) → ((∀ p ∈ cs, p.1 < dx)) → (@LT.lt Nat _ dx x) → (@LT.lt Nat _ x hl) → C { heap := h, gens := gs, drawn := dr, toks := tk, os := s.os }) → C s'
noncomputable abbrev st3 : List PySem.Str := [Str.ofString "seat", Str.ofString "best", Str.ofString "one"]
theorem fr_stored {h₀ h : Heap} {L : Addr} {stored : List PySem.Str} {m₀ m₁ : PySem.Str → Option PySem.Value} (h2 : ∀ z, stored.contains z = false → m₁ z = m₀ z)
    (F : Fr h₀ L h m₁) : Fr h₀ L h (fun z => if stored.contains z then m₁ z else m₀ z) := by
  have em : (fun z => if stored.contains z then m₁ z else m₀ z) = m₁ := by
    funext z
    cases h3 : stored.contains z with
    | true => simp
    | false => simp [h2 z h3]
  rw [em]; exact F
noncomputable def OffB (tl : List (Addr × PySem.Obj)) (x dx hl : Addr) : Prop := OwnOff tl [x, dx, hl] ∧ ∀ p ∈ tl, @LT.lt Nat _ dx p.1
noncomputable def BenchJ (P : PySem.Params) (m0 : PySem.Str → Option PySem.Value) (x dx hl : Addr) (tx1 tx2 : Tok) (cs : List (Addr × PySem.Obj)) (way v0 v1 v2 v3 : Int) (i : Nat) (m : PySem.Str → Option PySem.Value) (nx : List (Addr × PySem.Obj)) : Prop :=
  (∀ z, st3.contains z = false → m z = m0 z) ∧ ∃ (bs : List Nat) (vb : List PySem.Value) (n : Nat) (hv : List PySem.Value) (eh : Nat) (tl : List (Addr × PySem.Obj)),
    nx = (x, accObj 99 dx vb n) :: (dx, accD P tx1 tx2) :: (hl, listOf hv.toArray eh) :: (cs ++ tl) ∧
    DatAll tl vb ((lets bs).map pieceD) ∧ IntsAre hv [cntI bs 0, cntI bs 1, cntI bs 2, cntI bs 3] ∧ bs.length = i ∧ (∀ b ∈ bs, b < 4) ∧ GInv way v0 v1 v2 v3 bs ∧ OffB tl x dx hl
section
variable {prog : PySem.Program} {w : World} {A : Around} {E : PySem.Value → Shared → Prop} {s : Shared} {env : Env} {h₀ : Heap} {target : PySem.Expr} {body : List Stmt} {Q : Flow → Shared → Prop}
theorem bench_loop {r : Addr} {S1 : Int} {t₀ u₀ v₀ : Tok} {m0 : PySem.Str → Option PySem.Value} {L x dx hl : Addr} {tx1 tx2 c0 c1 c2 c3 : Tok} {cs : List (Addr × PySem.Obj)} {way v0 v1 v2 v3 : Int} (hL : env.locals = L)
    (hh : A.handled = none) (hr : IsRange s.heap r 0 S1 1 t₀ u₀ v₀) (hS : 0 ≤ S1 ∧ S1 < 128) (F : Fr h₀ L s.heap m0)
    (N : News h₀ L s.heap ((x, accObj 99 dx [] 0) :: (dx, accD w.params tx1 tx2) :: (hl, listOf #[.int 0 c0, .int 0 c1, .int 0 c2, .int 0 c3] 0) :: cs))
    (hG : AllBare s.gens) (g0 : GInv way v0 v1 v2 v3 [])
    (ht : ∀ v, letOwnedTupleGo target (.ref s.heap.objs.size) v = pure ()) (hE : PassesOwn (model prog w) A env E)
    (turn : ∀ (i : Nat) (k : Int) t (bs : List Nat) (vb : List PySem.Value) (n : Nat) (hv : List PySem.Value) (eh : Nat) (tl : List (Addr × PySem.Obj)) (u : PySem.Str → Option PySem.Value) h gs dr tk I o, (i : Int) < S1 → AllBare gs →
      DatAll tl vb ((lets bs).map pieceD) → IntsAre hv [cntI bs 0, cntI bs 1, cntI bs 2, cntI bs 3] → bs.length = i → (∀ b ∈ bs, b < 4) → GInv way v0 v1 v2 v3 bs → OffB tl x dx hl → (∀ b ∈ [x, dx, hl], I ≠ b) → (∀ p ∈ cs, p.1 ≠ I) → (∀ p ∈ tl, p.1 ≠ I) → Fr h₀ L h (fun z => if st3.contains z then u z else m0 z) →
      News h₀ L h ((x, accObj 99 dx vb n) :: (dx, accD w.params tx1 tx2) :: (hl, listOf hv.toArray eh) :: (cs ++ tl ++ [(I, o)])) →
      wpAny (model prog w) A (assign target env (.int k t)) (fun _ s₂ => wpAny (model prog w) A (execs body env) (PostF h₀ L (BenchJ w.params m0 x dx hl tx1 tx2 cs way v0 v1 v2 v3 (i + 1)) [(I, o)] s.os Q) E s₂) E { heap := h, gens := gs, drawn := dr, toks := tk, os := s.os })
    (done : ∀ (bs : List Nat) (vb : List PySem.Value) (n : Nat) (hv : List PySem.Value) (eh : Nat) (tl : List (Addr × PySem.Obj)) (u : PySem.Str → Option PySem.Value) h gs dr tk, AllBare gs →
      DatAll tl vb ((lets bs).map pieceD) → bs.length = S1.toNat → (∀ b ∈ bs, b < 4) → GInv way v0 v1 v2 v3 bs → OffB tl x dx hl → Fr h₀ L h (fun z => if st3.contains z then u z else m0 z) →
      News h₀ L h ((x, accObj 99 dx vb n) :: (dx, accD w.params tx1 tx2) :: (hl, listOf hv.toArray eh) :: (cs ++ tl)) →
      Q .next { heap := h, gens := gs, drawn := dr, toks := tk, os := s.os }) :
    wpAny (model prog w) A (pyIter (.ref r)) (fun it s₂ => LoopK prog w A E env target body Q it s₂) E s := by
  subst hL
  have N' : News h₀ env.locals s.heap ((x, accObj 99 dx [] 0) :: (dx, accD w.params tx1 tx2) :: (hl, listOf (List.toArray [.int 0 c0, .int 0 c1, .int 0 c2, .int 0 c3]) 0) :: (cs ++ [])) := by
    rw [List.append_nil]; exact N
  have eS : S1 = 0 + ((S1.toNat : Nat) : Int) := by omega
  refine rangeF (n := S1.toNat) (BenchJ w.params m0 x dx hl tx1 tx2 cs way v0 v1 v2 v3) hh hr (small_one (by omega) (by omega) (by omega) (by omega)) (by rw [rangeSize_nat]; omega) F N' ⟨fun _ _ => rfl, [], [], 0, _, 0, [], rfl, .nil, ?_, rfl, (fun _ h => nomatch h), g0, ⟨(fun _ h => nomatch h), (fun _ h => nomatch h)⟩⟩ hG ht hE ?_ ?_
  · show IntsAre _ [0, 0, 0, 0]
    repeat constructor
  · rintro i k t m₁ nx h gs dr tk I o hi hk ⟨hm, bs, vb, n, hv, eh, tl, rfl, hD, hi', hlen, hb4, hg, hoff⟩ hGs hor hI F₁ N₁
    have hI' := hI _ (.head _)
    refine turn i k t bs vb n hv eh tl m₁ h gs dr tk I o (by omega) hGs hD hi' hlen hb4 hg hoff (fun b hb => hI' b ?_) (fun p hp => (hI' p.1 ?_).symm) (fun p hp => (hI' p.1 ?_).symm) (fr_stored hm F₁) (by simpa using N₁)
    · simp only [List.mem_cons, List.not_mem_nil, or_false] at hb
      simp only [List.map_cons, List.mem_cons]
      rcases hb with hb | hb | hb <;> simp only [hb, true_or, or_true]
    · simp only [List.map_cons, List.mem_cons, List.map_append, List.mem_append]
      simp only [List.mem_map_of_mem hp, true_or, or_true]
    · simp only [List.map_cons, List.mem_cons, List.map_append, List.mem_append]
      simp only [List.mem_map_of_mem hp, or_true]
  · rintro m₁ nx h gs dr tk ⟨hm, bs, vb, n, hv, eh, tl, rfl, hD, hi', hlen, hb4, hg, hoff⟩ hGs F₁ N₁
    exact done bs vb n hv eh tl m₁ h gs dr tk hGs hD hlen hb4 hg hoff (fr_stored hm F₁) N₁
end
end
theorem kw_E5b : True := (by k_with_none; w_top off; exact trivial)
section
open PySem PySem.W PyProof.Rows PySem.Calls PyProof.V PySem.Spec
theorem inv5_of {P : PySem.Params} {h₀ h : Heap} {L : Addr} {s : Shared} {gs : Array GenState} {dr : Drawn} {tk : Nat} {u : PySem.Str → Option PySem.Value} {x dx hl vl sl : Addr} {v0 v1 v2 v3 way late : Int} {vv vs : List PySem.Value} {tl tw tx1 tx2 c0 c1 c2 c3 : Tok} {e es : Nat} {o1 o2 oz ot ow : PySem.Obj} {ct cz : Option PySem.Value} {ta : List (Addr × PySem.Obj)} {xl xu vg vt va : PySem.Value}
    (F : Fr h₀ L h (fun y => if y = Str.ofString "held" then some (.ref hl) else if y = Str.ofString "bench" then some (.ref x) else if y = Str.ofString "seats" then some (.ref sl) else if y = Str.ofString "lower" then some xl else if y = Str.ofString "upper" then some xu else if y = Str.ofString "gains" then some vg else if y = Str.ofString "together" then some vt else if y = Str.ofString "apart" then some va else if y = Str.ofString "late" then some (.int late tl) else if y = Str.ofString "votes" then some (.ref vl) else u y))
    (N : News h₀ L h ((hl, listOf #[.int 0 c0, .int 0 c1, .int 0 c2, .int 0 c3] 0) :: (x, accObj 99 dx [] 0) :: (dx, accD P tx1 tx2) :: (119, o1) :: (126, o2) :: (sl, listOf vs.toArray es) :: (L + 1 + 1, oz) :: (vl, listOf vv.toArray e) :: (L + 1 + 1 + 1, ot) :: (L + 1, ow) :: (69, tabObj #[]) :: ta))
    (lx : ∀ p ∈ (119, o1) :: (126, o2) :: (sl, listOf vs.toArray es) :: (L + 1 + 1, oz) :: (vl, listOf vv.toArray e) :: (L + 1 + 1 + 1, ot) :: (L + 1, ow) :: (69, tabObj #[]) :: ta, p.1 < dx) (lxd : @LT.lt Nat _ dx x) (lxh : @LT.lt Nat _ x hl)
    (hG : AllBare gs)
    (S1 : TabSt (Str.ofString "_int2digits.<locals>.inner") 71 4 o1 ta) (S2 : TabSt (Str.ofString "_digits2int.<locals>.inner") 86 4 o2 ta)
    (hD : DatAll ta vs (seatDats (fun k => seatsI way v0 v1 v2 v3 k) 13)) (hi : IntsAre vv [v0, v1, v2, v3])
    (hw : ow.data = .cell (some (.int way tw))) (ht : ot.data = .cell ct) (hz : oz.data = .cell cz)
    (b0 : 1 ≤ v0 ∧ v0 ≤ 6) (b1 : 1 ≤ v1 ∧ v1 ≤ 6) (b2 : 1 ≤ v2 ∧ v2 ≤ 6) (b3 : 1 ≤ v3 ∧ v3 ≤ 6) (bw : 0 ≤ way ∧ way < 3) (bl : 0 ≤ late ∧ late < 2)
    (f1 : ∀ p ∈ (119, o1) :: (126, o2) :: (sl, listOf vs.toArray es) :: (vl, listOf vv.toArray e) :: (L + 1, ow) :: (69, tabObj #[]) :: ta, p.1 ≠ L + 1 + 1 ∧ p.1 ≠ L + 1 + 1 + 1)
    (f2 : ∀ p ∈ (119, o1) :: (126, o2) :: (sl, listOf vs.toArray es) :: (L + 1 + 1, oz) :: (vl, listOf vv.toArray e) :: (L + 1 + 1 + 1, ot) :: (L + 1, ow) :: ta, p.1 ≠ 69) :
    Inv5 P h₀ L s { heap := h, gens := gs, drawn := dr, toks := tk, os := s.os } :=
  fun _ k => k h gs dr tk u x dx hl vl sl v0 v1 v2 v3 way late vv vs tl tw tx1 tx2 c0 c1 c2 c3 e es o1 o2 oz ot ow ct cz ta _ xl xu vg vt va hG F rfl (fun p hp => N p (by
    rcases List.mem_cons.mp hp with h | hp
    · exact h ▸ .tail _ (.head _)
    · rcases List.mem_cons.mp hp with h | hp
      · exact h ▸ .tail _ (.tail _ (.head _))
      · rcases List.mem_cons.mp hp with h | hp
        · exact h ▸ .head _
        · exact .tail _ (.tail _ (.tail _ hp)))) S1 S2 hD hi hw ht hz b0 b1 b2 b3 bw bl f1 f2 lx lxd lxh
theorem Inv1.all {h₀ : Heap} {L : Addr} {s : Shared} {C : Shared → Prop} (k : ∀ (h : Heap) (tk : Nat) (u : PySem.Str → Option PySem.Value) (vl : Addr) (v0 v1 v2 v3 way late : Int) (t0 t1 t2 t3 tl tw : Tok) (e : Nat) (ot os ow : PySem.Obj) (ct cz : Option PySem.Value), (Fr h₀ L h (fun y => if y = Str.ofString "late" then some (.int late tl) else if y = Str.ofString "votes" then some (.ref vl) else u y)) → (News h₀ L h [(vl, listOf #[.int v0 t0, .int v1 t1, .int v2 t2, .int v3 t3] e), (L + 1 + 1 + 1, ot), (L + 1 + 1, os), (L + 1, ow), (126, tabObj #[]), (119, tabObj #[]), (69, tabObj #[])]) → (ow.data = .cell (some (.int way tw))) → (ot.data = .cell ct) → (os.data = .cell cz) → ((1 ≤ v0 ∧ v0 ≤ 6)) → ((1 ≤ v1 ∧ v1 ≤ 6)) → ((1 ≤ v2 ∧ v2 ≤ 6)) → ((1 ≤ v3 ∧ v3 ≤ 6)) → ((0 ≤ way ∧ way < 3)) → ((0 ≤ late ∧ late < 2)) → ((vl ≠ L + 1 ∧ vl ≠ L + 1 + 1 ∧ vl ≠ L + 1 + 1 + 1 ∧ vl ≠ 126 ∧ vl ≠ 119 ∧ vl ≠ 69 ∧ @LT.lt Nat _ 126 L)) → C { s with heap := h, toks := tk }) : ∀ s', Inv1 h₀ L s s' → C s' := fun _ H => H C k

theorem Inv2.all {P : PySem.Params} {h₀ : Heap} {L : Addr} {s : Shared} {C : Shared → Prop} (k : ∀ (h : Heap) (tk : Nat) (u : PySem.Str → Option PySem.Value) (vl xa : Addr) (v0 v1 v2 v3 way late : Int) (t0 t1 t2 t3 tl tw : Tok) (e : Nat) (ot os ow : PySem.Obj) (ct cz : Option PySem.Value) (ta : List (Addr × PySem.Obj)) (vg vt : PySem.Value), (Fr h₀ L h (fun y => if y = Str.ofString "gains" then some vg else if y = Str.ofString "together" then some vt else if y = Str.ofString "apart" then some (.ref xa) else if y = Str.ofString "late" then some (.int late tl) else if y = Str.ofString "votes" then some (.ref vl) else u y)) → (News h₀ L h ([(vl, listOf #[.int v0 t0, .int v1 t1, .int v2 t2, .int v3 t3] e), (L + 1 + 1 + 1, ot), (L + 1 + 1, os), (L + 1, ow), (126, tabObj #[]), (119, tabObj #[]), (69, tabObj #[])] ++ ta)) → (WsAt P ta xa (histL [v0, v1, v2, v3]) 4) → (ow.data = .cell (some (.int way tw))) → (ot.data = .cell ct) → (os.data = .cell cz) → ((1 ≤ v0 ∧ v0 ≤ 6)) → ((1 ≤ v1 ∧ v1 ≤ 6)) → ((1 ≤ v2 ∧ v2 ≤ 6)) → ((1 ≤ v3 ∧ v3 ≤ 6)) → ((0 ≤ way ∧ way < 3)) → ((0 ≤ late ∧ late < 2)) → ((vl ≠ L + 1 ∧ vl ≠ L + 1 + 1 ∧ vl ≠ L + 1 + 1 + 1 ∧ vl ≠ 126 ∧ vl ≠ 119 ∧ vl ≠ 69 ∧ @LT.lt Nat _ 126 L)) → ((∀ p ∈ ta, vl < p.1 ∧ L + 1 + 1 + 1 < p.1)) → C { s with heap := h, toks := tk }) : ∀ s', Inv2 P h₀ L s s' → C s' := fun _ H => H C k

theorem Inv3.all {P : PySem.Params} {h₀ : Heap} {L : Addr} {s : Shared} {C : Shared → Prop} (k : ∀ (h : Heap) (tk : Nat) (u : PySem.Str → Option PySem.Value) (vl ua la : Addr) (nsU nsL : List Int) (ntU ntL : Int) (v0 v1 v2 v3 way late : Int) (vv : List PySem.Value) (tl tw : Tok) (e : Nat) (ot os ow : PySem.Obj) (ct cz : Option PySem.Value) (ta : List (Addr × PySem.Obj)) (vg vt va : PySem.Value), (Fr h₀ L h (fun y => if y = Str.ofString "lower" then some (.ref la) else if y = Str.ofString "upper" then some (.ref ua) else if y = Str.ofString "gains" then some vg else if y = Str.ofString "together" then some vt else if y = Str.ofString "apart" then some va else if y = Str.ofString "late" then some (.int late tl) else if y = Str.ofString "votes" then some (.ref vl) else u y)) → (News h₀ L h ((vl, listOf vv.toArray e) :: (L + 1 + 1 + 1, ot) :: (L + 1 + 1, os) :: (L + 1, ow) :: (126, tabObj #[]) :: (119, tabObj #[]) :: (69, tabObj #[]) :: ta)) → (WsAt P ta ua nsU ntU) → (WsAt P ta la nsL ntL) → ((∀ k : Int, 1 ≤ k → lvl nsU ntU k - lvl nsL ntL k = k * seatsI way v0 v1 v2 v3 k)) → (IntsAre vv [v0, v1, v2, v3]) → (ow.data = .cell (some (.int way tw))) → (ot.data = .cell ct) → (os.data = .cell cz) → ((1 ≤ v0 ∧ v0 ≤ 6)) → ((1 ≤ v1 ∧ v1 ≤ 6)) → ((1 ≤ v2 ∧ v2 ≤ 6)) → ((1 ≤ v3 ∧ v3 ≤ 6)) → ((0 ≤ way ∧ way < 3)) → ((0 ≤ late ∧ late < 2)) → ((vl ≠ L + 1 ∧ vl ≠ L + 1 + 1 ∧ vl ≠ L + 1 + 1 + 1 ∧ vl ≠ 126 ∧ vl ≠ 119 ∧ vl ≠ 69 ∧ @LT.lt Nat _ 126 L)) → ((∀ p ∈ ta, L + 1 + 1 + 1 < p.1)) → C { s with heap := h, toks := tk }) : ∀ s', Inv3 P h₀ L s s' → C s' := fun _ H => H C k

theorem Inv4.all {h₀ : Heap} {L : Addr} {s : Shared} {C : Shared → Prop} (k : ∀ (h : Heap) (gs : Array GenState) (dr : Drawn) (tk : Nat) (u : PySem.Str → Option PySem.Value) (vl sl : Addr) (v0 v1 v2 v3 way late : Int) (vv vs : List PySem.Value) (tl tw : Tok) (e es : Nat) (o1 o2 oz ot ow : PySem.Obj) (ct cz : Option PySem.Value) (ta : List (Addr × PySem.Obj)) (xl xu vg vt va : PySem.Value), (AllBare gs) → (Fr h₀ L h (fun y => if y = Str.ofString "seats" then some (.ref sl) else if y = Str.ofString "lower" then some xl else if y = Str.ofString "upper" then some xu else if y = Str.ofString "gains" then some vg else if y = Str.ofString "together" then some vt else if y = Str.ofString "apart" then some va else if y = Str.ofString "late" then some (.int late tl) else if y = Str.ofString "votes" then some (.ref vl) else u y)) → (News h₀ L h ((119, o1) :: (126, o2) :: (sl, listOf vs.toArray es) :: (L + 1 + 1, oz) :: (vl, listOf vv.toArray e) :: (L + 1 + 1 + 1, ot) :: (L + 1, ow) :: (69, tabObj #[]) :: ta)) → (TabSt (Str.ofString "_int2digits.<locals>.inner") 71 4 o1 ta) → (TabSt (Str.ofString "_digits2int.<locals>.inner") 86 4 o2 ta) → (DatAll ta vs (seatDats (fun k => seatsI way v0 v1 v2 v3 k) 13)) → (IntsAre vv [v0, v1, v2, v3]) → (ow.data = .cell (some (.int way tw))) → (ot.data = .cell ct) → (oz.data = .cell cz) → ((1 ≤ v0 ∧ v0 ≤ 6)) → ((1 ≤ v1 ∧ v1 ≤ 6)) → ((1 ≤ v2 ∧ v2 ≤ 6)) → ((1 ≤ v3 ∧ v3 ≤ 6)) → ((0 ≤ way ∧ way < 3)) → ((0 ≤ late ∧ late < 2)) → ((∀ p ∈ (119, o1) :: (126, o2) :: (sl, listOf vs.toArray es) :: (vl, listOf vv.toArray e) :: (L + 1, ow) :: (69, tabObj #[]) :: ta, p.1 ≠ L + 1 + 1 ∧ p.1 ≠ L + 1 + 1 + 1)) → ((∀ p ∈ (119, o1) :: (126, o2) :: (sl, listOf vs.toArray es) :: (L + 1 + 1, oz) :: (vl, listOf vv.toArray e) :: (L + 1 + 1 + 1, ot) :: (L + 1, ow) :: ta, p.1 ≠ 69)) → C { heap := h, gens := gs, drawn := dr, toks := tk, os := s.os }) : ∀ s', Inv4 h₀ L s s' → C s' := fun _ H => H C k

theorem Inv5.all {P : PySem.Params} {h₀ : Heap} {L : Addr} {s : Shared} {C : Shared → Prop} (k : ∀ (h : Heap) (gs : Array GenState) (dr : Drawn) (tk : Nat) (u : PySem.Str → Option PySem.Value) (x dx hl vl sl : Addr) (v0 v1 v2 v3 way late : Int) (vv vs : List PySem.Value) (tl tw tx1 tx2 c0 c1 c2 c3 : Tok) (e es : Nat) (o1 o2 oz ot ow : PySem.Obj) (ct cz : Option PySem.Value) (ta cs : List (Addr × PySem.Obj)) (xl xu vg vt va : PySem.Value), (AllBare gs) → (Fr h₀ L h (fun y => if y = Str.ofString "held" then some (.ref hl) else if y = Str.ofString "bench" then some (.ref x) else if y = Str.ofString "seats" then some (.ref sl) else if y = Str.ofString "lower" then some xl else if y = Str.ofString "upper" then some xu else if y = Str.ofString "gains" then some vg else if y = Str.ofString "together" then some vt else if y = Str.ofString "apart" then some va else if y = Str.ofString "late" then some (.int late tl) else if y = Str.ofString "votes" then some (.ref vl) else u y)) → (cs = (119, o1) :: (126, o2) :: (sl, listOf vs.toArray es) :: (L + 1 + 1, oz) :: (vl, listOf vv.toArray e) :: (L + 1 + 1 + 1, ot) :: (L + 1, ow) :: (69, tabObj #[]) :: ta) → (News h₀ L h ((x, accObj 99 dx [] 0) :: (dx, accD P tx1 tx2) :: (hl, listOf #[.int 0 c0, .int 0 c1, .int 0 c2, .int 0 c3] 0) :: cs)) → (TabSt (Str.ofString "_int2digits.<locals>.inner") 71 4 o1 ta) → (TabSt (Str.ofString "_digits2int.<locals>.inner") 86 4 o2 ta) → (DatAll ta vs (seatDats (fun k => seatsI way v0 v1 v2 v3 k) 13)) → (IntsAre vv [v0, v1, v2, v3]) → (ow.data = .cell (some (.int way tw))) → (ot.data = .cell ct) → (oz.data = .cell cz) → ((1 ≤ v0 ∧ v0 ≤ 6)) → ((1 ≤ v1 ∧ v1 ≤ 6)) → ((1 ≤ v2 ∧ v2 ≤ 6)) → ((1 ≤ v3 ∧ v3 ≤ 6)) → ((0 ≤ way ∧ way < 3)) → ((0 ≤ late ∧ late < 2)) → ((∀ p ∈ (119, o1) :: (126, o2) :: (sl, listOf vs.toArray es) :: (vl, listOf vv.toArray e) :: (L + 1, ow) :: (69, tabObj #[]) :: ta, p.1 ≠ L + 1 + 1 ∧ p.1 ≠ L + 1 + 1 + 1)) → ((∀ p ∈ (119, o1) :: (126, o2) :: (sl, listOf vs.toArray es) :: (L + 1 + 1, oz) :: (vl, listOf vv.toArray e) :: (L + 1 + 1 + 1, ot) :: (L + 1, ow) :: ta, p.1 ≠ 69)) → ((∀ p ∈ cs, p.1 < dx)) → (@LT.lt Nat _ dx x) → (@LT.lt Nat _ x hl) → C { heap := h, gens := gs, drawn := dr, toks := tk, os := s.os }) : ∀ s', Inv5 P h₀ L s s' → C s' := fun _ H => H C k

end
theorem kw_E6a : True := (by k_with_none; w_top off; exact trivial)
section
open PySem PySem.W PyProof.Rows PySem.Calls PyProof.V PySem.Spec
theorem seats_get {ta : List (Addr × PySem.Obj)} {vs : List PySem.Value} {S : Int → Int} {n : Nat} (h : DatAll ta vs (seatDats S n)) {k : Nat} (hk : k < n) :
    ∃ (a0 : Addr) (t0 t1 : Tok) (e0 : Nat), vs[k]? = some (.ref a0) ∧ (a0, tupO [.int (S (1 + k)) t0, .int 0 t1] e0) ∈ ta := by
  obtain ⟨v, hv, hin⟩ := h.get (k := k) (by rw [seatDats_len]; exact hk)
  have e : (seatDats S n)[k]'(by rw [seatDats_len]; exact hk) = Dat.tuple [.int (S (1 + k)), .int 0] := by
    simp [seatDats, rangeKs]
  rw [e] at hin
  cases hin with
  | @tuple ad vv nn ds hmem hall =>
    cases hall with
    | cons ha hb => cases hb with
      | cons hc hd' => cases hd' with
        | nil => cases ha with
          | int _ u1 => cases hc with
            | int _ u2 => exact ⟨ad, u1, u2, nn, hv, hmem⟩
section
variable {prog : PySem.Program} {w : World} {A : Around} {E : PySem.Value → Shared → Prop} {s : Shared} {h₀ : Heap} {L : Addr} {news : List (Addr × PySem.Obj)}
theorem tup_at {value slice : PySem.Expr} {l : Addr} {vs : List PySem.Value} {e : Nat} {k : Int} {j : Nat} {u : Tok} {v : PySem.Value} {Q : PySem.Value → Shared → Prop} (N : News h₀ L s.heap news) (hm : (l, tupO vs e) ∈ news)
    (hlo : -(2 ^ 63) ≤ k) (hhi : k < 2 ^ 63) (hj : seqIndex? k vs.length = some j) (hx : vs[j]? = some v) (h : Q v s)
    (hs : subscripted slice false (.ref l) (.int k u) = operate [.ref l, .int k u] (getItem (.ref l) (.int k u))) :
    wpAny (model prog w) A (subscriptTail value slice (.ref l) (.int k u)) Q E s := tail_any (News.isTup N hm).typeIs slot_tuple_getitem.lookup (getItem_tuple (News.isTup N hm) hlo hhi (by simpa using hj) (by simpa using hx) h) hs
end
noncomputable abbrev st2 : List PySem.Str := [Str.ofString "best", Str.ofString "one"]
theorem fr_best {h₀ h : Heap} {L : Addr} {stored : List PySem.Str} {b : PySem.Str} {v : PySem.Value} {m₀ m₁ : PySem.Str → Option PySem.Value} (h2 : ∀ z, stored.contains z = false → m₁ z = m₀ z) (hb : m₁ b = some v)
    (F : Fr h₀ L h m₁) : Fr h₀ L h (fun z => if z = b then some v else if stored.contains z then m₁ z else m₀ z) := by
  have em : (fun z => if z = b then some v else if stored.contains z then m₁ z else m₀ z) = m₁ := by
    funext z
    by_cases hz : z = b
    · subst hz; simp [hb]
    · simp only [hz, if_false]
      cases h3 : stored.contains z with
      | true => simp
      | false => simp [h2 z h3]
  rw [em]; exact F
noncomputable def OneJ (m0 : PySem.Str → Option PySem.Value) (nx0 : List (Addr × PySem.Obj)) (way v0 v1 v2 v3 : Int) (bs : List Nat) (i : Nat) (m : PySem.Str → Option PySem.Value) (nx : List (Addr × PySem.Obj)) : Prop :=
  nx = nx0 ∧ (∀ z, st2.contains z = false → m z = m0 z) ∧ ∃ (b : Nat) (tb : Tok), m (Str.ofString "best") = some (.int b tb) ∧ Best way v0 v1 v2 v3 bs b (i + 1)
section
variable {prog : PySem.Program} {w : World} {A : Around} {E : PySem.Value → Shared → Prop} {s : Shared} {env : Env} {h₀ : Heap} {target : PySem.Expr} {body : List Stmt} {Q : Flow → Shared → Prop}
theorem one_loop {D L : Addr} {m0 : PySem.Str → Option PySem.Value} {nx0 : List (Addr × PySem.Obj)} {way v0 v1 v2 v3 : Int} {bs : List Nat} {tb0 a1 a2 a3 : Tok} {e : Nat} (hL : env.locals = L)
    (hh : A.handled = none) (F : Fr h₀ L s.heap m0) (N : News h₀ L s.heap nx0) (hm : (D, tupO [.int 1 a1, .int 2 a2, .int 3 a3] e) ∈ nx0) (hb : m0 (Str.ofString "best") = some (.int 0 tb0))
    (ht : ∀ v, letOwnedTupleGo target (.ref s.heap.objs.size) v = pure ()) (hE : PassesOwn (model prog w) A env E)
    (turn : ∀ (i : Nat) t (b : Nat) tb (u : PySem.Str → Option PySem.Value) h tk I o, i < 3 → Best way v0 v1 v2 v3 bs b (i + 1) → (∀ p ∈ nx0, p.1 ≠ I) → Fr h₀ L h (fun z => if z = Str.ofString "best" then some (.int b tb) else if st2.contains z then u z else m0 z) → News h₀ L h (nx0 ++ [(I, o)]) →
      wpAny (model prog w) A (assign target env (.int ((i : Int) + 1) t)) (fun _ s₂ => wpAny (model prog w) A (execs body env) (InvPostG h₀ L (OneJ m0 nx0 way v0 v1 v2 v3 bs (i + 1)) [(I, o)] { s with heap := h, toks := tk } Q) E s₂) E { s with heap := h, toks := tk })
    (done : ∀ (b : Nat) tb (u : PySem.Str → Option PySem.Value) h tk, Best way v0 v1 v2 v3 bs b 4 → Fr h₀ L h (fun z => if z = Str.ofString "best" then some (.int b tb) else if st2.contains z then u z else m0 z) → News h₀ L h nx0 → Q .next { s with heap := h, toks := tk }) :
    wpAny (model prog w) A (pyIter (.ref D)) (fun it s₂ => LoopK prog w A E env target body Q it s₂) E s := by
  subst hL
  have hDn := N _ hm
  have hT : s.heap.IsTuple D #[.int 1 a1, .int 2 a2, .int 3 a3] := ⟨_, hDn.1, rfl, e, rfl⟩
  have hne : D ≠ s.heap.objs.size := Nat.ne_of_lt (Heap.lt_size hDn.1)
  refine wpAny_pyIter_tuple hT ?_
  have W := Walks.tuple (prog := prog) (w := w) hh s.heap.objs.size D hne #[.int 1 a1, .int 2 a2, .int 3 a3]
  refine my_loop (OneJ m0 nx0 way v0 v1 v2 v3 bs) W (.head _) (fun i h hi => ⟨_, hi.1.choose_spec.1⟩) ?_ ?_ (next_is_new F) ?_ ⟨⟨_, Heap.get?_push_size _ rfl, rfl, rfl⟩, hT.push _⟩ (F.push _) (fun p hp => ⟨Heap.get?_push_of_some _ (N p hp).1, (N p hp).2⟩) ⟨rfl, fun _ _ => rfl, 0, tb0, hb, best_zero⟩ ht hE ?_ ?_
  · intro b hb'
    rcases List.mem_cons.mp hb' with h | h
    · exact .inl h
    · rw [List.mem_singleton.mp h]
      exact .inr (.inr ⟨_, fun i m nx hj => hj.1 ▸ hm⟩)
  · intro hm'
    rcases List.mem_cons.mp hm' with h | h
    · exact absurd F.ns.lt (h ▸ Nat.lt_irrefl _)
    · exact hDn.2.1 (List.mem_singleton.mp h).symm
  · intro p hp hI
    exact absurd (Heap.lt_size (N p hp).1) (hI ▸ Nat.lt_irrefl _)
  · rintro i v m₁ nx h tk o hi hv ⟨rfl, hm1, b, tb, hb1, hbest⟩ hoff F₁ N₁
    have hI' := hoff _ (.head _)
    have hv' : ∃ t, v = .int ((i : Int) + 1) t := by
      have h3 : i < 3 := hi
      have : i = 0 ∨ i = 1 ∨ i = 2 := by lia
      rcases this with h | h | h <;> subst h <;> simp at hv <;> exact ⟨_, hv.symm⟩
    obtain ⟨t, rfl⟩ := hv'
    exact turn i t b tb m₁ h tk _ o hi hbest (fun p hp => (hI' p.1 (List.mem_map_of_mem hp)).symm) (fr_best hm1 hb1 F₁) N₁
  · rintro m₁ nx h tk ⟨rfl, hm1, b, tb, hb1, hbest⟩ F₁ N₁
    exact done b tb m₁ h tk hbest (fr_best hm1 hb1 F₁) N₁
end
section
variable {prog : PySem.Program} {w : World} {A : Around} {E : PySem.Value → Shared → Prop} {s : Shared} {h₀ : Heap} {L : Addr} {news : List (Addr × PySem.Obj)}
theorem item_lstM {value slice : PySem.Expr} {l : Addr} {vs : List PySem.Value} {ns : List Int} {e : Nat} {k q : Int} {u : Tok} {Q : PySem.Value → Shared → Prop} (N : News h₀ L s.heap news) (hm : (l, listOf vs.toArray e) ∈ news) (hi : IntsAre vs ns)
    (h0 : 0 ≤ k) (h1 : k < ns.length) (hz : ns.length ≤ 16384) (hq : ns.getD k.toNat 0 = q) (h : ∀ t, Q (.int q t) s)
    (hs : subscripted slice false (.ref l) (.int k u) = operate [.ref l, .int k u] (getItem (.ref l) (.int k u))) (hg : ∀ r, letTemporaryGo value (.ref l) r = pure ()) :
    wpAny (model prog w) A (subscriptTail value slice (.ref l) (.int k u)) Q E s :=
  PyProof.Rows.item_list_ints (News.isList N hm) hi h0 h1 (by lia) (fun t => hq ▸ h t) hs hg
end
theorem vote_at {v0 v1 v2 v3 k : Int} {j : Nat} (hk : k = (j : Int)) : [v0, v1, v2, v3].getD k.toNat 0 = voteI v0 v1 v2 v3 j := by subst hk; rfl
theorem held_at {bs : List Nat} {k : Int} {j : Nat} (hk : k = (j : Int)) (hj : j < 4) : [cntI bs 0, cntI bs 1, cntI bs 2, cntI bs 3].getD k.toNat 0 = cntI bs j := by
  subst hk
  rcases lt4 hj with h | h | h | h <;> subst h <;> rfl
theorem cnt_le (bs : List Nat) (i : Nat) : cntI bs i ≤ bs.length := Int.ofNat_le.mpr (List.count_le_length)
theorem st2_ne {z : PySem.Str} (h : st2.contains z = false) : z ≠ Str.ofString "best" ∧ z ≠ Str.ofString "one" := by
  constructor <;> (rintro rfl; revert h; decide)
theorem st3_ne {z : PySem.Str} (h : st3.contains z = false) : z ≠ Str.ofString "seat" ∧ z ≠ Str.ofString "best" ∧ z ≠ Str.ofString "one" ∧ st2.contains z = false := by
  have a1 : z ≠ Str.ofString "seat" := by rintro rfl; revert h; decide
  have a2 : z ≠ Str.ofString "best" := by rintro rfl; revert h; decide
  have a3 : z ≠ Str.ofString "one" := by rintro rfl; revert h; decide
  refine ⟨a1, a2, a3, ?_⟩
  simp only [List.contains_cons, List.contains_nil, Bool.or_false, Bool.or_eq_false_iff, beq_eq_false_iff_ne]
  exact ⟨a2, a3⟩
theorem one_end {h₀ h : Heap} {L I : Addr} {m0 m' : PySem.Str → Option PySem.Value} {nx0 nxI : List (Addr × PySem.Obj)} {way v0 v1 v2 v3 : Int} {bs : List Nat} {i b : Nat} {tb : Tok} {o : PySem.Obj} {s₁ : Shared} {tk : Nat}
    (F : Fr h₀ L h m') (N : News h₀ L h nxI) (hN : nxI = nx0 ++ [(I, o)]) (hoff : ∀ p ∈ nx0, p.1 ≠ I) (hm : ∀ z, st2.contains z = false → m' z = m0 z) (hb : m' (Str.ofString "best") = some (.int b tb)) (hB : Best way v0 v1 v2 v3 bs b (i + 1 + 1)) :
    InvEndG h₀ L (OneJ m0 nx0 way v0 v1 v2 v3 bs (i + 1)) [(I, o)] s₁ { s₁ with heap := h, toks := tk } := by
  subst hN
  refine InvEndG.intro F N ⟨rfl, hm, b, tb, hb, hB⟩ ?_ (fun p hp => List.mem_append_left _ hp) (fun p hp => List.mem_append_right _ hp)
  intro p hp a ha
  obtain ⟨q, hq, rfl⟩ := List.mem_map.mp ha
  rw [List.mem_singleton.mp hp]
  exact (hoff q hq).symm
theorem held_set {bs : List Nat} {b : Nat} {ws : List PySem.Value} (hb : b < 4) (h : IntsAre ws ([cntI bs 0, cntI bs 1, cntI bs 2, cntI bs 3].set (b : Int).toNat ([cntI bs 0, cntI bs 1, cntI bs 2, cntI bs 3].getD (b : Int).toNat 0 + 1))) :
    IntsAre ws [cntI (bs ++ [b]) 0, cntI (bs ++ [b]) 1, cntI (bs ++ [b]) 2, cntI (bs ++ [b]) 3] := by
  simp only [cnt_snoc]
  rcases lt4 hb with e | e | e | e <;> subst e <;> simpa using h
theorem fd_push {P : PySem.Params} : findIn (hd0.heap_1 P) (.ref 99) "push" = some (some (.ref 45)) := by kernel_rfl
theorem fd_popf {P : PySem.Params} : findIn (hd0.heap_1 P) (.ref 99) "pop_from" = some (some (.ref 53)) := by kernel_rfl
theorem fd_reset {P : PySem.Params} : findIn (hd0.heap_1 P) (.ref 99) "reset" = some (some (.ref 82)) := by kernel_rfl
section
variable {prog : PySem.Program} {w : World} {A : Around} {E : PySem.Value → Shared → Prop} {s : Shared} {h₀ : Heap} {L : Addr} {m : PySem.Str → Option PySem.Value} {news : List (Addr × PySem.Obj)} {x dx : Addr} {vb : List PySem.Value} {n : Nat} {tx1 tx2 : Tok}
theorem acc_push {pl : Sem Bool} {Q : PySem.Value × List PySem.Value → Shared → Prop} (F : Fr h₀ L s.heap m) (X : (hd0.heap_1 w.params).In h₀) (N : News h₀ L s.heap news) (h1 : (x, accObj 99 dx vb n) ∈ news) (h2 : (dx, accD w.params tx1 tx2) ∈ news) (h : Q (.ref 45, [.ref x]) s) :
    wpAny (model prog w) A (getMethod (.ref x) (PySem.Str.ofString "push") pl) Q E s := method_accF F X (inst_acc N h1 h2) fd_push (by kernel_rfl) (by rfl) h
theorem acc_popf {pl : Sem Bool} {Q : PySem.Value × List PySem.Value → Shared → Prop} (F : Fr h₀ L s.heap m) (X : (hd0.heap_1 w.params).In h₀) (N : News h₀ L s.heap news) (h1 : (x, accObj 99 dx vb n) ∈ news) (h2 : (dx, accD w.params tx1 tx2) ∈ news) (h : Q (.ref 53, [.ref x]) s) :
    wpAny (model prog w) A (getMethod (.ref x) (PySem.Str.ofString "pop_from") pl) Q E s := method_accF F X (inst_acc N h1 h2) fd_popf (by kernel_rfl) (by rfl) h
theorem acc_reset {pl : Sem Bool} {Q : PySem.Value × List PySem.Value → Shared → Prop} (F : Fr h₀ L s.heap m) (X : (hd0.heap_1 w.params).In h₀) (N : News h₀ L s.heap news) (h1 : (x, accObj 99 dx vb n) ∈ news) (h2 : (dx, accD w.params tx1 tx2) ∈ news) (h : Q (.ref 82, [.ref x]) s) :
    wpAny (model prog w) A (getMethod (.ref x) (PySem.Str.ofString "reset") pl) Q E s := method_accF F X (inst_acc N h1 h2) fd_reset (by kernel_rfl) (by rfl) h
end
section
variable {prog : PySem.Program} {w : World} {A : Around} {E : PySem.Value → Shared → Prop} {s : Shared}
theorem abcd_at {value slice : PySem.Expr} {t u : Tok} {k : Int} {b : Nat} {Q : PySem.Value → Shared → Prop} (hk : k = (b : Int)) (hb : b < 4) (h : Q (.str (letter b) s.toks) { s with toks := s.toks + 1 })
    (hs : subscripted slice false (.str (Str.ofString "abcd") t) (.int k u) = operate [.str (Str.ofString "abcd") t, .int k u] (getItem (.str (Str.ofString "abcd") t) (.int k u))) :
    wpAny (model prog w) A (subscriptTail value slice (.str (Str.ofString "abcd") t) (.int k u)) Q E s := by
  subst hk
  refine tail_any (typeIs_str s _ t) F.slot_str_getitem.lookup (P.getItem_str (c := 97 + b) ?_ ?_ h) hs
  · rcases lt4 hb with e | e | e | e <;> subst e <;> decide
  · rcases lt4 hb with e | e | e | e <;> subst e <;> decide
end
theorem seats28 {way v0 v1 v2 v3 : Int} (hw : 0 ≤ way ∧ way < 3) (b0 : v0 ≤ 6) (b1 : v1 ≤ 6) (b2 : v2 ≤ 6) (b3 : v3 ≤ 6) : seatsI way v0 v1 v2 v3 1 ≤ 28 := by
  have h0 := told_le (v := v0) hw (Int.le_refl 1)
  have h1 := told_le (v := v1) hw (Int.le_refl 1)
  have h2 := told_le (v := v2) hw (Int.le_refl 1)
  have h3 := told_le (v := v3) hw (Int.le_refl 1)
  unfold seatsI; lia
theorem bench_end {P : PySem.Params} {h₀ h : Heap} {L x dx hl I D : Addr} {m0 m' : PySem.Str → Option PySem.Value} {tx1 tx2 tf tt : Tok} {cs tl : List (Addr × PySem.Obj)} {way v0 v1 v2 v3 : Int} {i b n eh e : Nat} {bs : List Nat} {vb hv : List PySem.Value} {o : PySem.Obj} {os₀ : OsState} {gs : Array GenState} {dr : Drawn} {tk : Nat}
    (b0 : 1 ≤ v0 ∧ v0 ≤ 6) (b1 : 1 ≤ v1 ∧ v1 ≤ 6) (b2 : 1 ≤ v2 ∧ v2 ≤ 6) (b3 : 1 ≤ v3 ∧ v3 ≤ 6) (hG : AllBare gs) (F : Fr h₀ L h m')
    (N : News h₀ L h ((x, accObj 99 dx (vb ++ [.ref D]) n) :: (D, tupO [.str " " tf, .str (letter b) tt] e) :: (hl, listOf hv.toArray eh) :: (dx, accD P tx1 tx2) :: (cs ++ tl ++ [(I, o)])))
    (l1 : ∀ p ∈ (hl, listOf hv.toArray eh) :: (dx, accD P tx1 tx2) :: (cs ++ tl ++ [(I, o)]), p.1 < D) (l2 : @LT.lt Nat _ x D)
    (hm : ∀ z, st3.contains z = false → m' z = m0 z) (hD : DatAll tl vb ((lets bs).map pieceD)) (hi : IntsAre hv [cntI (bs ++ [b]) 0, cntI (bs ++ [b]) 1, cntI (bs ++ [b]) 2, cntI (bs ++ [b]) 3]) (hlen : bs.length = i) (hb4 : ∀ b ∈ bs, b < 4) (hg : GInv way v0 v1 v2 v3 bs) (hoff : OffB tl x dx hl)
    (oII : ∀ b ∈ [x, dx, hl], I ≠ b) (oIc : ∀ p ∈ cs, p.1 ≠ I) (oIt : ∀ p ∈ tl, p.1 ≠ I) (hB : Best way v0 v1 v2 v3 bs b 4) :
    EndF h₀ L (BenchJ P m0 x dx hl tx1 tx2 cs way v0 v1 v2 v3 (i + 1)) [(I, o)] os₀ { heap := h, gens := gs, drawn := dr, toks := tk, os := os₀ } := by
  have dx' : dx < D := l1 (dx, _) (.tail _ (.head _))
  have hl' : hl < D := l1 (hl, _) (.head _)
  have I' : I < D := l1 (I, o) (by first | walk_at "mem" | simp)
  refine ⟨h, gs, dr, tk, m', _, (x, accObj 99 dx (vb ++ [.ref D]) n) :: (dx, accD P tx1 tx2) :: (hl, listOf hv.toArray eh) :: (cs ++ ((D, tupO [.str " " tf, .str (letter b) tt] e) :: tl)), rfl, hG, F, N, ?_, ?_, ?_, hm, bs ++ [b], vb ++ [.ref D], n, hv, eh, (D, tupO [.str " " tf, .str (letter b) tt] e) :: tl, rfl, ?_, hi, ?_, ?_, greedy_step b0 b1 b2 b3 hb4 hB.1 hg hB.2, ?_⟩
  · intro p hp
    refine sub_of hp ?_
    walk_at "sub"
  · intro p hp
    simp only [List.mem_append, List.mem_cons, List.not_mem_nil, or_false] at hp ⊢
    simp only [hp, or_true]
  · intro p hp a ha
    rw [List.mem_singleton.mp hp]
    simp only [List.map_cons, List.map_append, List.mem_append, List.mem_cons, List.mem_map] at ha
    rcases ha with ha | ha | ha | ⟨q, hq, ha⟩ | ha | ⟨q, hq, ha⟩
    · exact oII a (by simp [ha])
    · exact oII a (by simp [ha])
    · exact oII a (by simp [ha])
    · exact ha ▸ (oIc q hq).symm
    · rw [ha]; exact Nat.ne_of_lt I'
    · exact ha ▸ (oIt q hq).symm
  · have el : (lets (bs ++ [b])).map pieceD = (lets bs).map pieceD ++ [Dat.tuple [.str " ", .str (letter b)]] := by
      unfold lets; rw [List.map_append, List.map_append]; rfl
    rw [el]
    exact (hD.mono fun p hp => .tail _ hp).append (DatAll.one (DatIn.tuple (List.Mem.head _) (.cons (.str _ _) (.cons (.str _ _) .nil))))
  · rw [List.length_append, hlen]; rfl
  · intro c hc
    rcases List.mem_append.mp hc with hc | hc
    · exact hb4 c hc
    · rw [List.mem_singleton.mp hc]; exact hB.1
  · refine ⟨fun p hp a ha => ?_, fun p hp => ?_⟩
    · rcases List.mem_cons.mp hp with hp | hp
      · rw [hp]
        simp only [List.mem_cons, List.not_mem_nil, or_false] at ha
        rcases ha with ha | ha | ha <;> rw [ha]
        · exact Nat.ne_of_gt l2
        · exact Nat.ne_of_gt dx'
        · exact Nat.ne_of_gt hl'
      · exact hoff.1 p hp a ha
    · rcases List.mem_cons.mp hp with hp | hp
      · rw [hp]; exact dx'
      · exact hoff.2 p hp
end
theorem kw_E6b : True := (by k_with_none; w_top off; exact trivial)
section
open PySem PySem.W PyProof.Rows PySem.Calls PyProof.V PySem.Spec
/-- behind the greedy loop -/
noncomputable def Inv6 (P : PySem.Params) (h₀ : Heap) (L : Addr) (s s' : Shared) : Prop :=
  ∀ C : Shared → Prop, (∀ (h : Heap) (gs : Array GenState) (dr : Drawn) (tk : Nat) (u : PySem.Str → Option PySem.Value) (x dx vl sl : Addr) (v0 v1 v2 v3 way : Int) (vv vs vb : List PySem.Value) (tw tx1 tx2 : Tok) (e es n : Nat) (p1 p2 : Array PySem.Value) (oz ot ow : PySem.Obj) (ct cz : Option PySem.Value) (ks : List (Addr × PySem.Obj)) (bs : List Nat), (AllBare gs) → (Fr h₀ L h (fun y => if y = Str.ofString "bench" then some (.ref x) else if y = Str.ofString "seats" then some (.ref sl) else if y = Str.ofString "votes" then some (.ref vl) else u y)) → (News h₀ L h ((x, accObj 99 dx vb n) :: (dx, accD P tx1 tx2) :: (69, tabObj #[]) :: (L + 1 + 1, oz) :: (L + 1 + 1 + 1, ot) :: ks)) → ((119, tabObj p1) ∈ ks) → ((126, tabObj p2) ∈ ks) → ((sl, listOf vs.toArray es) ∈ ks) → ((vl, listOf vv.toArray e) ∈ ks) → ((L + 1, ow) ∈ ks) → (DatAll ks vs (seatDats (fun k => seatsI way v0 v1 v2 v3 k) 13)) → (DatAll ks vb ((lets bs).map pieceD)) → (IntsAre vv [v0, v1, v2, v3]) → (ow.data = .cell (some (.int way tw))) → (ot.data = .cell ct) → (oz.data = .cell cz) → ((1 ≤ v0 ∧ v0 ≤ 6)) → ((1 ≤ v1 ∧ v1 ≤ 6)) → ((1 ≤ v2 ∧ v2 ≤ 6)) → ((1 ≤ v3 ∧ v3 ≤ 6)) → ((0 ≤ way ∧ way < 3)) → (bs.length = (seatsI way v0 v1 v2 v3 1).toNat) → ((∀ b ∈ bs, b < 4)) → (GInv way v0 v1 v2 v3 bs) → ((∀ p ∈ ks, p.1 ≠ x ∧ p.1 ≠ dx ∧ p.1 ≠ 69 ∧ p.1 ≠ L + 1 + 1 ∧ p.1 ≠ L + 1 + 1 + 1)) → ((dx ≠ x ∧ x ≠ 69 ∧ x ≠ L + 1 + 1 ∧ x ≠ L + 1 + 1 + 1 ∧ dx ≠ 69 ∧ dx ≠ L + 1 + 1 ∧ dx ≠ L + 1 + 1 + 1 ∧ 69 ≠ L + 1 + 1 ∧ 69 ≠ L + 1 + 1 + 1)) → C { heap := h, gens := gs, drawn := dr, toks := tk, os := s.os }) → C s'
theorem TabSt.tab {q : PySem.Str} {a b : Int} {o : PySem.Obj} {nw : List (Addr × PySem.Obj)} (h : TabSt q a b o nw) : ∃ ps, o = tabObj ps := by
  rcases h with h | ⟨c, oc, vs, t, h, _⟩
  · exact ⟨_, h⟩
  · exact ⟨_, h⟩
theorem inv6_of {P : PySem.Params} {h₀ h : Heap} {L : Addr} {s : Shared} {gs : Array GenState} {dr : Drawn} {tk : Nat} {u : PySem.Str → Option PySem.Value} {x dx hl vl sl : Addr} {v0 v1 v2 v3 way : Int} {vv vs vb hv : List PySem.Value} {tw tx1 tx2 : Tok} {e es n eh : Nat} {o1 o2 oz ot ow : PySem.Obj} {ct cz : Option PySem.Value} {ta cs tlp : List (Addr × PySem.Obj)} {bs : List Nat}
    (hG : AllBare gs) (F : Fr h₀ L h u) (m1 : u (Str.ofString "bench") = some (.ref x)) (m2 : u (Str.ofString "seats") = some (.ref sl)) (m3 : u (Str.ofString "votes") = some (.ref vl))
    (hcs : cs = (119, o1) :: (126, o2) :: (sl, listOf vs.toArray es) :: (L + 1 + 1, oz) :: (vl, listOf vv.toArray e) :: (L + 1 + 1 + 1, ot) :: (L + 1, ow) :: (69, tabObj #[]) :: ta)
    (N : News h₀ L h ((x, accObj 99 dx vb n) :: (dx, accD P tx1 tx2) :: (hl, listOf hv.toArray eh) :: (cs ++ tlp)))
    (S1 : TabSt (Str.ofString "_int2digits.<locals>.inner") 71 4 o1 ta) (S2 : TabSt (Str.ofString "_digits2int.<locals>.inner") 86 4 o2 ta)
    (hD : DatAll ta vs (seatDats (fun k => seatsI way v0 v1 v2 v3 k) 13)) (hDb : DatAll tlp vb ((lets bs).map pieceD)) (hi : IntsAre vv [v0, v1, v2, v3])
    (hw : ow.data = .cell (some (.int way tw))) (ht : ot.data = .cell ct) (hz : oz.data = .cell cz)
    (b0 : 1 ≤ v0 ∧ v0 ≤ 6) (b1 : 1 ≤ v1 ∧ v1 ≤ 6) (b2 : 1 ≤ v2 ∧ v2 ≤ 6) (b3 : 1 ≤ v3 ∧ v3 ≤ 6) (bw : 0 ≤ way ∧ way < 3)
    (hlen : bs.length = (seatsI way v0 v1 v2 v3 1).toNat) (hb4 : ∀ b ∈ bs, b < 4) (hg : GInv way v0 v1 v2 v3 bs) (hoffp : OffB tlp x dx hl)
    (f1 : ∀ p ∈ (119, o1) :: (126, o2) :: (sl, listOf vs.toArray es) :: (vl, listOf vv.toArray e) :: (L + 1, ow) :: (69, tabObj #[]) :: ta, p.1 ≠ L + 1 + 1 ∧ p.1 ≠ L + 1 + 1 + 1)
    (f2 : ∀ p ∈ (119, o1) :: (126, o2) :: (sl, listOf vs.toArray es) :: (L + 1 + 1, oz) :: (vl, listOf vv.toArray e) :: (L + 1 + 1 + 1, ot) :: (L + 1, ow) :: ta, p.1 ≠ 69)
    (lcs : ∀ p ∈ cs, p.1 < dx) (lxd : @LT.lt Nat _ dx x) : Inv6 P h₀ L s { heap := h, gens := gs, drawn := dr, toks := tk, os := s.os } := by
  obtain ⟨p1, rfl⟩ := S1.tab
  obtain ⟨p2, rfl⟩ := S2.tab
  subst hcs
  have l69 : (69 : Nat) < dx := lcs (69, tabObj #[]) (by first | walk_at "mem" | simp)
  have lz : L + 1 + 1 < dx := lcs (L + 1 + 1, oz) (by first | walk_at "mem" | simp)
  have lt : L + 1 + 1 + 1 < dx := lcs (L + 1 + 1 + 1, ot) (by first | walk_at "mem" | simp)
  have F' := fr_known (x := Str.ofString "bench") (v := .ref x) m1 F
  have F'' := fr_known (x := Str.ofString "seats") (v := .ref sl) m2 F
  have F1 := fr_known (x := Str.ofString "votes") (v := .ref vl) m3 F
  have F2 := fr_known (x := Str.ofString "seats") (v := .ref sl) (by show (if _ then _ else _) = _; rw [if_neg (by decide)]; exact m2) F1
  have F3 := fr_known (x := Str.ofString "bench") (v := .ref x) (by show (if _ then _ else _) = _; rw [if_neg (by decide)]; show (if _ then _ else _) = _; rw [if_neg (by decide)]; exact m1) F2
  refine fun _ k => k h gs dr tk u x dx vl sl v0 v1 v2 v3 way vv vs vb tw tx1 tx2 e es n p1 p2 oz ot ow ct cz ((119, tabObj p1) :: (126, tabObj p2) :: (sl, listOf vs.toArray es) :: (vl, listOf vv.toArray e) :: (L + 1, ow) :: (ta ++ tlp)) bs hG F3 ?_ (.head _) (.tail _ (.head _)) (.tail _ (.tail _ (.head _))) (.tail _ (.tail _ (.tail _ (.head _)))) (.tail _ (.tail _ (.tail _ (.tail _ (.head _))))) (hD.mono ?_) (hDb.mono ?_) hi hw ht hz b0 b1 b2 b3 bw hlen hb4 hg ?_ ?_
  · intro p hp
    refine N p ?_
    refine sub_of hp ?_
    walk_at "sub"
  · intro p hp; refine sub_of hp ?_; walk_at "sub"
  · intro p hp; refine sub_of hp ?_; walk_at "sub"
  · intro p hp
    have up : ∀ q : Addr, dx < q → q ≠ dx ∧ q ≠ (69 : Nat) ∧ q ≠ L + 1 + 1 ∧ q ≠ L + 1 + 1 + 1 := fun q hq => ⟨Nat.ne_of_gt hq, Nat.ne_of_gt (Nat.lt_trans l69 hq), Nat.ne_of_gt (Nat.lt_trans lz hq), Nat.ne_of_gt (Nat.lt_trans lt hq)⟩
    by_cases ht' : p ∈ tlp
    · exact ⟨hoffp.1 p ht' _ (by first | walk_at "mem" | simp), up _ (hoffp.2 p ht')⟩
    · have hp' : p ∈ (119, tabObj p1) :: (126, tabObj p2) :: (sl, listOf vs.toArray es) :: (vl, listOf vv.toArray e) :: (L + 1, ow) :: ta := by
        simp only [List.mem_append, List.mem_cons, ht', or_false] at hp ⊢
        exact hp
      have c1 : p ∈ (119, tabObj p1) :: (126, tabObj p2) :: (sl, listOf vs.toArray es) :: (L + 1 + 1, oz) :: (vl, listOf vv.toArray e) :: (L + 1 + 1 + 1, ot) :: (L + 1, ow) :: (69, tabObj #[]) :: ta := by
        exact sub_of hp' (by walk_at "sub")
      have c2 : p ∈ (119, tabObj p1) :: (126, tabObj p2) :: (sl, listOf vs.toArray es) :: (vl, listOf vv.toArray e) :: (L + 1, ow) :: (69, tabObj #[]) :: ta := by
        exact sub_of hp' (by walk_at "sub")
      have c3 : p ∈ (119, tabObj p1) :: (126, tabObj p2) :: (sl, listOf vs.toArray es) :: (L + 1 + 1, oz) :: (vl, listOf vv.toArray e) :: (L + 1 + 1 + 1, ot) :: (L + 1, ow) :: ta := by
        exact sub_of hp' (by walk_at "sub")
      exact ⟨Nat.ne_of_lt (Nat.lt_trans (lcs p c1) lxd), Nat.ne_of_lt (lcs p c1), f2 p c3, (f1 p c2).1, (f1 p c2).2⟩
  · exact ⟨Nat.ne_of_lt lxd, Nat.ne_of_gt (Nat.lt_trans l69 lxd), Nat.ne_of_gt (Nat.lt_trans lz lxd), Nat.ne_of_gt (Nat.lt_trans lt lxd), Nat.ne_of_gt l69, Nat.ne_of_gt lz, Nat.ne_of_gt lt, (f1 (69, tabObj #[]) (by first | walk_at "mem" | simp)).1, (f1 (69, tabObj #[]) (by first | walk_at "mem" | simp)).2⟩
theorem Inv6.all {P : PySem.Params} {h₀ : Heap} {L : Addr} {s : Shared} {C : Shared → Prop} (k : ∀ (h : Heap) (gs : Array GenState) (dr : Drawn) (tk : Nat) (u : PySem.Str → Option PySem.Value) (x dx vl sl : Addr) (v0 v1 v2 v3 way : Int) (vv vs vb : List PySem.Value) (tw tx1 tx2 : Tok) (e es n : Nat) (p1 p2 : Array PySem.Value) (oz ot ow : PySem.Obj) (ct cz : Option PySem.Value) (ks : List (Addr × PySem.Obj)) (bs : List Nat), (AllBare gs) → (Fr h₀ L h (fun y => if y = Str.ofString "bench" then some (.ref x) else if y = Str.ofString "seats" then some (.ref sl) else if y = Str.ofString "votes" then some (.ref vl) else u y)) → (News h₀ L h ((x, accObj 99 dx vb n) :: (dx, accD P tx1 tx2) :: (69, tabObj #[]) :: (L + 1 + 1, oz) :: (L + 1 + 1 + 1, ot) :: ks)) → ((119, tabObj p1) ∈ ks) → ((126, tabObj p2) ∈ ks) → ((sl, listOf vs.toArray es) ∈ ks) → ((vl, listOf vv.toArray e) ∈ ks) → ((L + 1, ow) ∈ ks) → (DatAll ks vs (seatDats (fun k => seatsI way v0 v1 v2 v3 k) 13)) → (DatAll ks vb ((lets bs).map pieceD)) → (IntsAre vv [v0, v1, v2, v3]) → (ow.data = .cell (some (.int way tw))) → (ot.data = .cell ct) → (oz.data = .cell cz) → ((1 ≤ v0 ∧ v0 ≤ 6)) → ((1 ≤ v1 ∧ v1 ≤ 6)) → ((1 ≤ v2 ∧ v2 ≤ 6)) → ((1 ≤ v3 ∧ v3 ≤ 6)) → ((0 ≤ way ∧ way < 3)) → (bs.length = (seatsI way v0 v1 v2 v3 1).toNat) → ((∀ b ∈ bs, b < 4)) → (GInv way v0 v1 v2 v3 bs) → ((∀ p ∈ ks, p.1 ≠ x ∧ p.1 ≠ dx ∧ p.1 ≠ 69 ∧ p.1 ≠ L + 1 + 1 ∧ p.1 ≠ L + 1 + 1 + 1)) → ((dx ≠ x ∧ x ≠ 69 ∧ x ≠ L + 1 + 1 ∧ x ≠ L + 1 + 1 + 1 ∧ dx ≠ 69 ∧ dx ≠ L + 1 + 1 ∧ dx ≠ L + 1 + 1 + 1 ∧ 69 ≠ L + 1 + 1 ∧ 69 ≠ L + 1 + 1 + 1)) → C { heap := h, gens := gs, drawn := dr, toks := tk, os := s.os }) : ∀ s', Inv6 P h₀ L s s' → C s' := fun _ H => H C k

end
theorem kw_E7a : True := (by k_with_none; w_top off; exact trivial)
section
open PySem PySem.W PyProof.Rows PySem.Calls PyProof.V PySem.Spec
noncomputable def textB (bs : List Nat) : PySem.Str := PySem.Txt.join "" ((lets bs).map pieceT)
/-- behind made and off -/
noncomputable def Inv7 (P : PySem.Params) (h₀ : Heap) (L : Addr) (s s' : Shared) : Prop :=
  ∀ C : Shared → Prop, (∀ (h : Heap) (gs : Array GenState) (dr : Drawn) (tk : Nat) (u : PySem.Str → Option PySem.Value) (x dx vl sl ol : Addr) (v0 v1 v2 v3 way : Int) (vv vs vb : List PySem.Value) (tw tx1 tx2 tm : Tok) (e es n : Nat) (p1 p2 : Array PySem.Value) (o3 oz ot ow : PySem.Obj) (ct cz : Option PySem.Value) (ks : List (Addr × PySem.Obj)) (bs : List Nat), (AllBare gs) → (Fr h₀ L h (fun y => if y = Str.ofString "off" then some (.ref ol) else if y = Str.ofString "made" then some (.str (textB bs) tm) else if y = Str.ofString "bench" then some (.ref x) else if y = Str.ofString "seats" then some (.ref sl) else if y = Str.ofString "votes" then some (.ref vl) else u y)) → (News h₀ L h ((x, accObj 99 dx vb n) :: (dx, accD P tx1 tx2) :: (69, o3) :: (L + 1 + 1, oz) :: (L + 1 + 1 + 1, ot) :: (ol, listOf #[] 0) :: ks)) → (TabG 27 32 o3) → ((119, tabObj p1) ∈ ks) → ((126, tabObj p2) ∈ ks) → ((sl, listOf vs.toArray es) ∈ ks) → ((vl, listOf vv.toArray e) ∈ ks) → ((L + 1, ow) ∈ ks) → (DatAll ks vs (seatDats (fun k => seatsI way v0 v1 v2 v3 k) 13)) → (DatAll ks vb ((lets bs).map pieceD)) → (IntsAre vv [v0, v1, v2, v3]) → (ow.data = .cell (some (.int way tw))) → (ot.data = .cell ct) → (oz.data = .cell cz) → ((1 ≤ v0 ∧ v0 ≤ 6)) → ((1 ≤ v1 ∧ v1 ≤ 6)) → ((1 ≤ v2 ∧ v2 ≤ 6)) → ((1 ≤ v3 ∧ v3 ≤ 6)) → ((0 ≤ way ∧ way < 3)) → (bs.length = (seatsI way v0 v1 v2 v3 1).toNat) → ((∀ b ∈ bs, b < 4)) → (GInv way v0 v1 v2 v3 bs) → ((∀ p ∈ ks, p.1 ≠ x ∧ p.1 ≠ dx ∧ p.1 ≠ 69 ∧ p.1 ≠ L + 1 + 1 ∧ p.1 ≠ L + 1 + 1 + 1)) → ((dx ≠ x ∧ x ≠ 69 ∧ x ≠ L + 1 + 1 ∧ x ≠ L + 1 + 1 + 1 ∧ dx ≠ 69 ∧ dx ≠ L + 1 + 1 ∧ dx ≠ L + 1 + 1 + 1 ∧ 69 ≠ L + 1 + 1 ∧ 69 ≠ L + 1 + 1 + 1)) → ((ol ≠ x ∧ ol ≠ dx ∧ ol ≠ 69 ∧ ol ≠ L + 1 + 1 ∧ ol ≠ L + 1 + 1 + 1)) → C { heap := h, gens := gs, drawn := dr, toks := tk, os := s.os }) → C s'
theorem inv7_of {P : PySem.Params} {h₀ h : Heap} {L : Addr} {s : Shared} {gs : Array GenState} {dr : Drawn} {tk : Nat} {u : PySem.Str → Option PySem.Value} {x dx vl sl ol : Addr} {v0 v1 v2 v3 way : Int} {vv vs vb : List PySem.Value} {tw tx1 tx2 tm : Tok} {e es n : Nat} {p1 p2 : Array PySem.Value} {o3 oz ot ow : PySem.Obj} {ct cz : Option PySem.Value} {ks : List (Addr × PySem.Obj)} {bs : List Nat}
    (hG : AllBare gs) (F : Fr h₀ L h (fun y => if y = Str.ofString "off" then some (.ref ol) else if y = Str.ofString "made" then some (.str (textB bs) tm) else if y = Str.ofString "bench" then some (.ref x) else if y = Str.ofString "seats" then some (.ref sl) else if y = Str.ofString "votes" then some (.ref vl) else u y))
    (N : News h₀ L h ((ol, listOf #[] 0) :: (69, o3) :: (x, accObj 99 dx vb n) :: (dx, accD P tx1 tx2) :: (L + 1 + 1, oz) :: (L + 1 + 1 + 1, ot) :: ks))
    (lo : (69 : Nat) < ol ∧ @LT.lt Nat _ x ol ∧ @LT.lt Nat _ dx ol ∧ @LT.lt Nat _ (L + 1 + 1) ol ∧ @LT.lt Nat _ (L + 1 + 1 + 1) ol)
    (h3 : TabG 27 32 o3) (m119 : (119, tabObj p1) ∈ ks) (m126 : (126, tabObj p2) ∈ ks) (msl : (sl, listOf vs.toArray es) ∈ ks) (mvl : (vl, listOf vv.toArray e) ∈ ks) (mow : (L + 1, ow) ∈ ks)
    (hD : DatAll ks vs (seatDats (fun k => seatsI way v0 v1 v2 v3 k) 13)) (hDb : DatAll ks vb ((lets bs).map pieceD)) (hi : IntsAre vv [v0, v1, v2, v3])
    (hw : ow.data = .cell (some (.int way tw))) (ht : ot.data = .cell ct) (hz : oz.data = .cell cz)
    (b0 : 1 ≤ v0 ∧ v0 ≤ 6) (b1 : 1 ≤ v1 ∧ v1 ≤ 6) (b2 : 1 ≤ v2 ∧ v2 ≤ 6) (b3 : 1 ≤ v3 ∧ v3 ≤ 6) (bw : 0 ≤ way ∧ way < 3)
    (hlen : bs.length = (seatsI way v0 v1 v2 v3 1).toNat) (hb4 : ∀ b ∈ bs, b < 4) (hg : GInv way v0 v1 v2 v3 bs)
    (hks : ∀ p ∈ ks, p.1 ≠ x ∧ p.1 ≠ dx ∧ p.1 ≠ 69 ∧ p.1 ≠ L + 1 + 1 ∧ p.1 ≠ L + 1 + 1 + 1)
    (hne : dx ≠ x ∧ x ≠ 69 ∧ x ≠ L + 1 + 1 ∧ x ≠ L + 1 + 1 + 1 ∧ dx ≠ 69 ∧ dx ≠ L + 1 + 1 ∧ dx ≠ L + 1 + 1 + 1 ∧ 69 ≠ L + 1 + 1 ∧ 69 ≠ L + 1 + 1 + 1) :
    Inv7 P h₀ L s { heap := h, gens := gs, drawn := dr, toks := tk, os := s.os } :=
  fun _ k => k h gs dr tk u x dx vl sl ol v0 v1 v2 v3 way vv vs vb tw tx1 tx2 tm e es n p1 p2 o3 oz ot ow ct cz ks bs hG F (fun p hp => N p (by
    refine sub_of hp ?_
    walk_at "sub")) h3 m119 m126 msl mvl mow hD hDb hi hw ht hz b0 b1 b2 b3 bw hlen hb4 hg hks hne
    ⟨Nat.ne_of_gt lo.2.1, Nat.ne_of_gt lo.2.2.1, Nat.ne_of_gt lo.1, Nat.ne_of_gt lo.2.2.2.1, Nat.ne_of_gt lo.2.2.2.2⟩
theorem off69 {L x dx : Addr} {oz ot a b : PySem.Obj} {ks : List (Addr × PySem.Obj)} (hks : ∀ p ∈ ks, p.1 ≠ x ∧ p.1 ≠ dx ∧ p.1 ≠ 69 ∧ p.1 ≠ L + 1 + 1 ∧ p.1 ≠ L + 1 + 1 + 1)
    (hne : dx ≠ x ∧ x ≠ 69 ∧ x ≠ L + 1 + 1 ∧ x ≠ L + 1 + 1 + 1 ∧ dx ≠ 69 ∧ dx ≠ L + 1 + 1 ∧ dx ≠ L + 1 + 1 + 1 ∧ 69 ≠ L + 1 + 1 ∧ 69 ≠ L + 1 + 1 + 1) :
    ∀ p ∈ (x, a) :: (dx, b) :: (L + 1 + 1, oz) :: (L + 1 + 1 + 1, ot) :: ks, p.1 ≠ 69 := by
  intro p hp
  simp only [List.mem_cons] at hp
  rcases hp with hp | hp | hp | hp | hp
  · rw [hp]; exact hne.2.1
  · rw [hp]; exact hne.2.2.2.2.1
  · rw [hp]; exact hne.2.2.2.2.2.2.2.1.symm
  · rw [hp]; exact hne.2.2.2.2.2.2.2.2.symm
  · exact (hks p hp).2.2.1
theorem lets_len (bs : List Nat) : (lets bs).length = bs.length := by unfold lets; rw [List.length_map]
theorem lets_one {bs : List Nat} : ∀ c ∈ lets bs, c.length ≤ 1 := by
  intro c hc
  unfold lets at hc
  obtain ⟨b, _, rfl⟩ := List.mem_map.mp hc
  exact Nat.le_refl 1
theorem Inv7.all {P : PySem.Params} {h₀ : Heap} {L : Addr} {s : Shared} {C : Shared → Prop} (k : ∀ (h : Heap) (gs : Array GenState) (dr : Drawn) (tk : Nat) (u : PySem.Str → Option PySem.Value) (x dx vl sl ol : Addr) (v0 v1 v2 v3 way : Int) (vv vs vb : List PySem.Value) (tw tx1 tx2 tm : Tok) (e es n : Nat) (p1 p2 : Array PySem.Value) (o3 oz ot ow : PySem.Obj) (ct cz : Option PySem.Value) (ks : List (Addr × PySem.Obj)) (bs : List Nat), (AllBare gs) → (Fr h₀ L h (fun y => if y = Str.ofString "off" then some (.ref ol) else if y = Str.ofString "made" then some (.str (textB bs) tm) else if y = Str.ofString "bench" then some (.ref x) else if y = Str.ofString "seats" then some (.ref sl) else if y = Str.ofString "votes" then some (.ref vl) else u y)) → (News h₀ L h ((x, accObj 99 dx vb n) :: (dx, accD P tx1 tx2) :: (69, o3) :: (L + 1 + 1, oz) :: (L + 1 + 1 + 1, ot) :: (ol, listOf #[] 0) :: ks)) → (TabG 27 32 o3) → ((119, tabObj p1) ∈ ks) → ((126, tabObj p2) ∈ ks) → ((sl, listOf vs.toArray es) ∈ ks) → ((vl, listOf vv.toArray e) ∈ ks) → ((L + 1, ow) ∈ ks) → (DatAll ks vs (seatDats (fun k => seatsI way v0 v1 v2 v3 k) 13)) → (DatAll ks vb ((lets bs).map pieceD)) → (IntsAre vv [v0, v1, v2, v3]) → (ow.data = .cell (some (.int way tw))) → (ot.data = .cell ct) → (oz.data = .cell cz) → ((1 ≤ v0 ∧ v0 ≤ 6)) → ((1 ≤ v1 ∧ v1 ≤ 6)) → ((1 ≤ v2 ∧ v2 ≤ 6)) → ((1 ≤ v3 ∧ v3 ≤ 6)) → ((0 ≤ way ∧ way < 3)) → (bs.length = (seatsI way v0 v1 v2 v3 1).toNat) → ((∀ b ∈ bs, b < 4)) → (GInv way v0 v1 v2 v3 bs) → ((∀ p ∈ ks, p.1 ≠ x ∧ p.1 ≠ dx ∧ p.1 ≠ 69 ∧ p.1 ≠ L + 1 + 1 ∧ p.1 ≠ L + 1 + 1 + 1)) → ((dx ≠ x ∧ x ≠ 69 ∧ x ≠ L + 1 + 1 ∧ x ≠ L + 1 + 1 + 1 ∧ dx ≠ 69 ∧ dx ≠ L + 1 + 1 ∧ dx ≠ L + 1 + 1 + 1 ∧ 69 ≠ L + 1 + 1 ∧ 69 ≠ L + 1 + 1 + 1)) → ((ol ≠ x ∧ ol ≠ dx ∧ ol ≠ 69 ∧ ol ≠ L + 1 + 1 ∧ ol ≠ L + 1 + 1 + 1)) → C { heap := h, gens := gs, drawn := dr, toks := tk, os := s.os }) : ∀ s', Inv7 P h₀ L s s' → C s' := fun _ H => H C k

end
theorem kw_E8a : True := (by k_with_none; w_top off; exact trivial)
section
open PySem PySem.W PyProof.Rows PySem.Calls PyProof.V PySem.Spec
noncomputable abbrev stL : List PySem.Str := [Str.ofString "off", Str.ofString "told"]
noncomputable def LastJ (P : PySem.Params) (m0 : PySem.Str → Option PySem.Value) (L x dx : Addr) (tx1 tx2 : Tok) (ks : List (Addr × PySem.Obj)) (vb : List PySem.Value) (S : Int → Int) (i : Nat) (m : PySem.Str → Option PySem.Value) (nx : List (Addr × PySem.Obj)) : Prop :=
  (∀ z, stL.contains z = false → m z = m0 z) ∧ ∃ (κ n eo : Nat) (ol : Addr) (o3 oz ot : PySem.Obj) (cz ct : Option PySem.Value),
    nx = (x, accObj 99 dx (vb.take κ) n) :: (dx, accD P tx1 tx2) :: (69, o3) :: (L + 1 + 1, oz) :: (L + 1 + 1 + 1, ot) :: (ol, listOf (vb.drop κ).toArray eo) :: ks ∧
    TabG 27 32 o3 ∧ oz.data = .cell cz ∧ ot.data = .cell ct ∧ m (Str.ofString "off") = some (.ref ol) ∧ κ ≤ vb.length ∧ (i < 13 → S (1 + i) ≤ κ) ∧
    (ol ≠ x ∧ ol ≠ dx ∧ ol ≠ 69 ∧ ol ≠ L + 1 + 1 ∧ ol ≠ L + 1 + 1 + 1)
section
variable {prog : PySem.Program} {w : World} {A : Around} {E : PySem.Value → Shared → Prop} {s : Shared} {env : Env} {h₀ : Heap} {target : PySem.Expr} {body : List Stmt} {Q : Flow → Shared → Prop}
theorem last_loop {r : Addr} {t₀ u₀ v₀ : Tok} {m0 : PySem.Str → Option PySem.Value} {L x dx ol : Addr} {tx1 tx2 : Tok} {ks : List (Addr × PySem.Obj)} {vb : List PySem.Value} {n : Nat} {o3 oz ot : PySem.Obj} {cz ct : Option PySem.Value} (S : Int → Int) (hL : env.locals = L)
    (hh : A.handled = none) (hr : IsRange s.heap r 1 14 1 t₀ u₀ v₀) (F : Fr h₀ L s.heap m0)
    (N : News h₀ L s.heap ((x, accObj 99 dx vb n) :: (dx, accD w.params tx1 tx2) :: (69, o3) :: (L + 1 + 1, oz) :: (L + 1 + 1 + 1, ot) :: (ol, listOf #[] 0) :: ks))
    (hG : AllBare s.gens) (h3 : TabG 27 32 o3) (hz : oz.data = .cell cz) (hct : ot.data = .cell ct) (hm : m0 (Str.ofString "off") = some (.ref ol)) (hS : S 1 = vb.length)
    (ho : ol ≠ x ∧ ol ≠ dx ∧ ol ≠ 69 ∧ ol ≠ L + 1 + 1 ∧ ol ≠ L + 1 + 1 + 1)
    (ht : ∀ v, letOwnedTupleGo target (.ref s.heap.objs.size) v = pure ()) (hE : PassesOwn (model prog w) A env E)
    (turn : ∀ (i : Nat) (k : Int) t (κ n eo : Nat) (ol : Addr) (o3 oz ot : PySem.Obj) (cz ct : Option PySem.Value) (u : PySem.Str → Option PySem.Value) h gs dr tk I o, i < 13 → k = 1 + (i : Int) → AllBare gs → TabG 27 32 o3 → oz.data = .cell cz → ot.data = .cell ct → κ ≤ vb.length → S (1 + i) ≤ κ →
      (ol ≠ x ∧ ol ≠ dx ∧ ol ≠ 69 ∧ ol ≠ L + 1 + 1 ∧ ol ≠ L + 1 + 1 + 1) → (x ≠ I ∧ dx ≠ I ∧ 69 ≠ I ∧ L + 1 + 1 ≠ I ∧ L + 1 + 1 + 1 ≠ I ∧ ol ≠ I) → (∀ p ∈ ks, p.1 ≠ I) → Fr h₀ L h (fun z => if z = Str.ofString "off" then some (.ref ol) else if stL.contains z then u z else m0 z) →
      News h₀ L h ((x, accObj 99 dx (vb.take κ) n) :: (dx, accD w.params tx1 tx2) :: (69, o3) :: (L + 1 + 1, oz) :: (L + 1 + 1 + 1, ot) :: (ol, listOf (vb.drop κ).toArray eo) :: (ks ++ [(I, o)])) →
      wpAny (model prog w) A (assign target env (.int k t)) (fun _ s₂ => wpAny (model prog w) A (execs body env) (PostF h₀ L (LastJ w.params m0 L x dx tx1 tx2 ks vb S (i + 1)) [(I, o)] s.os Q) E s₂) E { heap := h, gens := gs, drawn := dr, toks := tk, os := s.os })
    (done : ∀ (κ n eo : Nat) (ol : Addr) (o3 oz ot : PySem.Obj) (u : PySem.Str → Option PySem.Value) h gs dr tk, AllBare gs → TabG 27 32 o3 →
      (ol ≠ x ∧ ol ≠ dx ∧ ol ≠ 69 ∧ ol ≠ L + 1 + 1 ∧ ol ≠ L + 1 + 1 + 1) → Fr h₀ L h (fun z => if z = Str.ofString "off" then some (.ref ol) else if stL.contains z then u z else m0 z) →
      News h₀ L h ((x, accObj 99 dx (vb.take κ) n) :: (dx, accD w.params tx1 tx2) :: (69, o3) :: (L + 1 + 1, oz) :: (L + 1 + 1 + 1, ot) :: (ol, listOf (vb.drop κ).toArray eo) :: ks) →
      Q .next { heap := h, gens := gs, drawn := dr, toks := tk, os := s.os }) :
    wpAny (model prog w) A (pyIter (.ref r)) (fun it s₂ => LoopK prog w A E env target body Q it s₂) E s := by
  subst hL
  have N' : News h₀ env.locals s.heap ((x, accObj 99 dx (vb.take vb.length) n) :: (dx, accD w.params tx1 tx2) :: (69, o3) :: (env.locals + 1 + 1, oz) :: (env.locals + 1 + 1 + 1, ot) :: (ol, listOf (vb.drop vb.length).toArray 0) :: ks) := by
    rw [List.take_length, List.drop_length]; exact N
  refine rangeF (n := 13) (LastJ w.params m0 env.locals x dx tx1 tx2 ks vb S) hh hr (by decide) (by rfl) F N' ⟨fun _ _ => rfl, vb.length, n, 0, ol, o3, oz, ot, cz, ct, rfl, h3, hz, hct, hm, Nat.le_refl _, ?_, ho⟩ hG ht hE ?_ ?_
  · intro _
    show S 1 ≤ _
    rw [hS]; exact Int.le_refl _
  · rintro i k t m₁ nx h gs dr tk I o hi hk ⟨hm1, κ, n, eo, ol, o3, oz, ot, cz, ct, rfl, h3, hz, hct, hmo, hκ, hS', ho⟩ hGs hor hI F₁ N₁
    have hI' := hI _ (.head _)
    simp only [List.map_cons, List.mem_cons, List.mem_map, forall_eq_or_imp] at hI'
    refine turn i k t κ n eo ol o3 oz ot cz ct m₁ h gs dr tk I o hi hk hGs h3 hz hct hκ (hS' hi) ho ⟨hI'.1.symm, hI'.2.1.symm, hI'.2.2.1.symm, hI'.2.2.2.1.symm, hI'.2.2.2.2.1.symm, hI'.2.2.2.2.2.1.symm⟩ (fun p hp => (hI'.2.2.2.2.2.2 p.1 ⟨p, hp, rfl⟩).symm) (fr_best hm1 hmo F₁) N₁
  · rintro m₁ nx h gs dr tk ⟨hm1, κ, n, eo, ol, o3, oz, ot, cz, ct, rfl, h3, hz, hct, hmo, hκ, hS', ho⟩ hGs F₁ N₁
    exact done κ n eo ol o3 oz ot m₁ h gs dr tk hGs h3 ho (fr_best hm1 hmo F₁) N₁
end
theorem last_end {P : PySem.Params} {h₀ h : Heap} {L x dx I D : Addr} {m0 m' : PySem.Str → Option PySem.Value} {tx1 tx2 : Tok} {ks : List (Addr × PySem.Obj)} {vb : List PySem.Value} {S : Int → Int} {i n e κ : Nat} {o3 oz ot o : PySem.Obj} {cz ct : Option PySem.Value} {all : List (Addr × PySem.Obj)} {os₀ : OsState} {gs : Array GenState} {dr : Drawn} {tk : Nat}
    (hG : AllBare gs) (F : Fr h₀ L h m') (N : News h₀ L h all)
    (hN : ∀ p ∈ (x, accObj 99 dx (vb.take κ) n) :: (dx, accD P tx1 tx2) :: (69, o3) :: (L + 1 + 1, oz) :: (L + 1 + 1 + 1, ot) :: (D, listOf (vb.drop κ).toArray e) :: (ks ++ [(I, o)]), p ∈ all)
    (h3 : TabG 27 32 o3) (hz : oz.data = .cell cz) (hct : ot.data = .cell ct) (hm : ∀ z, stL.contains z = false → m' z = m0 z) (hoff : m' (Str.ofString "off") = some (.ref D)) (hκ : κ ≤ vb.length) (hS : i + 1 < 13 → S (1 + (i + 1 : Nat)) ≤ κ)
    (hD : D ≠ x ∧ D ≠ dx ∧ D ≠ 69 ∧ D ≠ L + 1 + 1 ∧ D ≠ L + 1 + 1 + 1) (hDI : D ≠ I) (hI : x ≠ I ∧ dx ≠ I ∧ 69 ≠ I ∧ L + 1 + 1 ≠ I ∧ L + 1 + 1 + 1 ≠ I) (hks : ∀ p ∈ ks, p.1 ≠ I) :
    EndF h₀ L (LastJ P m0 L x dx tx1 tx2 ks vb S (i + 1)) [(I, o)] os₀ { heap := h, gens := gs, drawn := dr, toks := tk, os := os₀ } := by
  refine ⟨h, gs, dr, tk, m', all, _, rfl, hG, F, N, ?_, ?_, ?_, hm, κ, n, e, D, o3, oz, ot, cz, ct, rfl, h3, hz, hct, hoff, hκ, hS, hD⟩
  · intro p hp
    refine hN p ?_
    refine sub_of hp ?_
    walk_at "sub"
  · intro p hp
    refine hN p ?_
    simp only [List.mem_cons, List.mem_append, List.not_mem_nil, or_false] at hp ⊢
    simp only [hp, or_true]
  · intro p hp a ha
    rw [List.mem_singleton.mp hp]
    simp only [List.map_cons, List.mem_cons, List.mem_map] at ha
    rcases ha with ha | ha | ha | ha | ha | ha | ⟨q, hq, ha⟩
    · rw [ha]; exact hI.1.symm
    · rw [ha]; exact hI.2.1.symm
    · rw [ha]; exact hI.2.2.1.symm
    · rw [ha]; exact hI.2.2.2.1.symm
    · rw [ha]; exact hI.2.2.2.2.symm
    · rw [ha]; exact hDI.symm
    · exact ha ▸ (hks q hq).symm
section
variable {prog : PySem.Program} {w : World} {A : Around} {E : PySem.Value → Shared → Prop} {s : Shared} {h₀ : Heap} {L : Addr} {m : PySem.Str → Option PySem.Value} {news : List (Addr × PySem.Obj)}
theorem add_anyM {l b : Addr} {vs ws : List PySem.Value} {e e' : Nat} {Q : PySem.Value → Shared → Prop} (F : Fr h₀ L s.heap m) (N : News h₀ L s.heap news) (hm : (l, listOf vs.toArray e) ∈ news) (hb : (b, listOf ws.toArray e') ∈ news) (hz : vs.length + ws.length ≤ 1000)
    (h : ∀ D h', Fr h₀ L h' m → News h₀ L h' ((D, listOf (vs ++ ws).toArray 0) :: news) → (∀ p ∈ news, p.1 < D) → Q (.ref D) { s with heap := h' }) :
    wpAny (model prog w) A (binaryOp .Add (.ref l) (.ref b)) Q E s :=
  add_lists F N (News.isList N hm) (News.isList N hb) (fun h' F' N' => h _ h' F' N' (fun p hp => Heap.lt_size (N p hp).1)) (by rw [sizeLine_eq]; lia)
end
theorem pop_take {vb : List PySem.Value} {σ κ : Nat} (h : σ ≤ κ) : (vb.take κ).take σ = vb.take σ := by rw [List.take_take, Nat.min_eq_left h]
theorem pop_drop {vb : List PySem.Value} {σ κ : Nat} (h : σ ≤ κ) : (vb.take κ).drop σ ++ vb.drop κ = vb.drop σ := by
  have e : vb.drop σ = (vb.take κ ++ vb.drop κ).drop σ := by rw [List.take_append_drop]
  rw [e]
  by_cases hl : κ ≤ vb.length
  · rw [List.drop_append_of_le_length (by rw [List.length_take]; lia)]
  · have e1 : vb.drop κ = [] := List.drop_eq_nil_of_le (by lia)
    rw [e1, List.append_nil, List.append_nil]
theorem off_x {L x dx I : Addr} {o1 o2 o3 o4 oI : PySem.Obj} {D : Addr} {oD : PySem.Obj} {ks : List (Addr × PySem.Obj)} (hks : ∀ p ∈ ks, p.1 ≠ x ∧ p.1 ≠ dx ∧ p.1 ≠ 69 ∧ p.1 ≠ L + 1 + 1 ∧ p.1 ≠ L + 1 + 1 + 1)
    (hne : dx ≠ x ∧ x ≠ 69 ∧ x ≠ L + 1 + 1 ∧ x ≠ L + 1 + 1 + 1 ∧ dx ≠ 69 ∧ dx ≠ L + 1 + 1 ∧ dx ≠ L + 1 + 1 + 1 ∧ 69 ≠ L + 1 + 1 ∧ 69 ≠ L + 1 + 1 + 1)
    (hD : D ≠ x ∧ D ≠ dx ∧ D ≠ 69 ∧ D ≠ L + 1 + 1 ∧ D ≠ L + 1 + 1 + 1) (hI : x ≠ I ∧ dx ≠ I ∧ 69 ≠ I ∧ L + 1 + 1 ≠ I ∧ L + 1 + 1 + 1 ≠ I) :
    (∀ p ∈ (x, o1) :: (dx, o2) :: (L + 1 + 1, o3) :: (L + 1 + 1 + 1, o4) :: (D, oD) :: (ks ++ [(I, oI)]), p.1 ≠ 69) ∧ (∀ p ∈ (x, o1) :: (dx, o2) :: (69, o3) :: (L + 1 + 1, o4) :: (D, oD) :: (ks ++ [(I, oI)]), p.1 ≠ L + 1 + 1 + 1) := by
  constructor
  · intro p hp
    simp only [List.mem_cons, List.mem_append, List.not_mem_nil, or_false] at hp
    rcases hp with hp | hp | hp | hp | hp | hp | hp
    · rw [hp]; exact hne.2.1
    · rw [hp]; exact hne.2.2.2.2.1
    · rw [hp]; exact hne.2.2.2.2.2.2.2.1.symm
    · rw [hp]; exact hne.2.2.2.2.2.2.2.2.symm
    · rw [hp]; exact hD.2.2.1
    · exact (hks p hp).2.2.1
    · rw [hp]; exact hI.2.2.1.symm
  · intro p hp
    simp only [List.mem_cons, List.mem_append, List.not_mem_nil, or_false] at hp
    rcases hp with hp | hp | hp | hp | hp | hp | hp
    · rw [hp]; exact hne.2.2.2.1
    · rw [hp]; exact hne.2.2.2.2.2.2.1
    · rw [hp]; exact hne.2.2.2.2.2.2.2.2
    · rw [hp]; exact (Nat.succ_ne_self _).symm
    · rw [hp]; exact hD.2.2.2.2
    · exact (hks p hp).2.2.2.2
    · rw [hp]; exact hI.2.2.2.2.symm
theorem dat_take {l : List (Addr × PySem.Obj)} : ∀ {vs : List PySem.Value} {ds : List Dat}, DatAll l vs ds → ∀ k : Nat, DatAll l (vs.take k) (ds.take k)
  | [], _, h, k => by cases h; rw [List.take_nil, List.take_nil]; exact .nil
  | v :: vs, _, h, 0 => .nil
  | v :: vs, _, h, k + 1 => by
    cases h with
    | cons h1 h2 => exact .cons h1 (dat_take h2 k)
theorem piece_take {l : List (Addr × PySem.Obj)} {vb : List PySem.Value} {bs : List Nat} (h : DatAll l vb ((lets bs).map pieceD)) (k : Nat) : DatAll l (vb.take k) ((lets (bs.take k)).map pieceD) := by
  have e : (lets (bs.take k)).map pieceD = ((lets bs).map pieceD).take k := by
    unfold lets; rw [List.map_take, List.map_take]
  rw [e]; exact dat_take h k
end
theorem kw_E8b : True := (by k_with_none; w_top off; exact trivial)
section
open PySem PySem.W PyProof.Rows PySem.Calls PyProof.V PySem.Spec
theorem str_st {h₀ : Heap} {L I : Addr} {ty : String} {x : PySem.Str} {t : Tok} : ∀ i (h h' : Heap) (o : PySem.Obj) (nw : List (Addr × PySem.Obj)), h.IsStrIter I ty x t i → h.get? I = some o → h'.get? I = some o → (∀ b o, h₀.get? b = some o → h'.get? b = some o) → News h₀ L h' nw → True → h'.IsStrIter I ty x t i :=
  fun i h h' o nw st e e' _ _ _ => by
    obtain ⟨o', q, r⟩ := st
    rw [e] at q; cases q
    exact ⟨o, e', r⟩
noncomputable def SrcT (prog : PySem.Program) (w : World) (A : Around) (h₀ : Heap) (L : Addr) (m : PySem.Str → Option PySem.Value) (env : Env) (elt : PySem.Expr) (x : PySem.Str) (scope : Scope) (cl : List (PySem.Str × Addr)) (Q : PySem.Value → Shared → Prop) (tx : PySem.Str) (xv : PySem.Value) (s₁ : Shared) : Prop :=
  ∃ (tt : Tok) (news : List (Addr × PySem.Obj)), xv = .str tx tt ∧ A.handled = none ∧ Fr h₀ L s₁.heap m ∧ News h₀ L s₁.heap news ∧ tx.cps.all (· < 128) = true ∧ tx.cps.size ≤ sizeLine ∧
    ∀ g, LCg.CompRest prog w A h₀ L m env elt x scope cl { s₁ with heap := g } (fun _ => True) (SignAt tx) (LCg.FinE h₀ L m { s₁ with heap := g } Q) tx.cps.size 0 [] news
section
variable {prog : PySem.Program} {w : World} {A : Around} {E : PySem.Value → Shared → Prop} {s : Shared} {env : Env} {h₀ : Heap} {L : Addr} {m : PySem.Str → Option PySem.Value}
theorem ListComp_T {elt iter : PySem.Expr} {x : PySem.Str} {px : Pos} {scope : Scope} {cl : List (PySem.Str × Addr)} {pos : Pos} {Q : PySem.Value → Shared → Prop} (tx : PySem.Str) (hF₀ : Fr h₀ L s.heap m)
    (hclos : closureFor scope env = pure cl) (hcell : ∀ y ∈ scope.names, y.2 ≠ .cell) (hkind : scope.kind = .function)
    (hnames : ∀ y ∈ scope.names, y.2 = .local → scope.names.lookup y.1 = some .local) (hx : scope.names.lookup x = some .local)
    (h : wpAny (model prog w) A (eval iter env) (SrcT prog w A h₀ L m env elt x scope cl Q tx) E s)
    (hs : ∀ x, foldedSetIterable iter env x = pure x := by intro _; rfl) :
    wpAny (model prog w) A (eval (.ListComp elt [⟨.Name x px, iter, [], 0⟩] scope pos) env) Q E s := by
  rw [eval_ListComp]
  refine wpAny_comprehension_free (use := none) rfl hs hclos hkind hnames (wpAny_mono h (fun xv s₁ h₁ => ?_) fun _ _ e => e)
  obtain ⟨tt, news, rfl, hh, F, N, ha, hsz, R⟩ := h₁
  refine wpAny_pyIter_ascii ha ?_
  refine LCg.block_U (Walks.strAscii hh s₁.heap.objs.size tx tt) hsz (fun i h st => by obtain ⟨o, e, _⟩ := st; exact ⟨o, e⟩) str_st hcell hkind hx ⟨_, Heap.get?_push_size _ rfl, rfl, rfl⟩ (fun b hb => ?_)
    (F.keeps fun _ _ e => Heap.get?_push_of_some _ e) (N.grown fun _ _ e => Heap.get?_push_of_some _ e) (Nat.ne_of_lt F.ns.lt) (next_is_new F) (fun p hp => Nat.ne_of_lt (Heap.lt_size (N p hp).1)) trivial (R _) ?_
  · rw [List.mem_singleton.mp hb]
    show s₁.heap.objs.size < (s₁.heap.push _).objs.size
    rw [Heap.size_push]; exact Nat.lt_succ_self _
  · intro D C h tk m' ys news' F' N' o1 hn hC₀ hD₀ hCL hDL hCD offC fin
    refine ⟨m', hn, fun h'' hs'' => fin D h'' tk (F'.change hs'' hCL hC₀) (fun p hp => ?_) o1⟩
    refine ⟨hs''.extBut _ _ ?_ (N' p hp).1, (N' p hp).2⟩
    rcases List.mem_cons.mp hp with rfl | hp
    · exact Ne.symm hCD
    · exact offC p hp
theorem rest_T {elt : PySem.Expr} {x : PySem.Str} {scope : Scope} {cl : List (PySem.Str × Addr)} {S : List (Addr × PySem.Obj) → Prop} {Fin : List PySem.Value → List (Addr × PySem.Obj) → Prop} {news : List (Addr × PySem.Obj)} (tx : PySem.Str) (g : Nat → Int)
    (turn : ∀ (i c : Nat) t I oI C oC D m₂ ys h tk (E' : PySem.Value → Shared → Prop), tx.cps[i]? = some c → LCg.NsObj oC m₂ → m₂ x = some (.str ⟨#[c]⟩ t) → Fr h₀ L h m → News h₀ L h ((I, oI) :: (C, oC) :: (D, LCg.lst ys) :: news) → LCg.Off3 I C D news → ((@Ne Nat I C) ∧ (@Ne Nat I D) ∧ (@Ne Nat C D)) →
      wpAny (model prog w) A (eval elt (compEnvC scope cl C env)) (LCg.CompEnd h₀ L m { s with heap := h, toks := tk } I oI C oC D (LCg.lst ys) S (fun y news' => KCfEl news (g i) y news')) E' { s with heap := h, toks := tk })
    (fin : ∀ ys, IntsAre ys ((List.range tx.cps.size).map g) → Fin ys news) : LCg.CompRest prog w A h₀ L m env elt x scope cl s S (SignAt tx) Fin tx.cps.size 0 [] news := by
  have key : ∀ (j i : Nat) (ys : List PySem.Value), i + j = tx.cps.size → IntsAre ys ((List.range i).map g) → LCg.CompRest prog w A h₀ L m env elt x scope cl s S (SignAt tx) Fin j i ys news := by
    intro j
    induction j with
    | zero =>
      intro i ys hi hy
      have e : i = tx.cps.size := by lia
      subst e
      exact LCg.CompRest.zero (fin ys hy)
    | succ j ih =>
      intro i ys hi hy
      refine LCg.CompRest.succ ?_
      intro v I oI C oC D m₂ h tk E' hv hC hx F N off ne
      obtain ⟨c, t, hk, hv'⟩ := hv
      rw [hv'] at hx
      refine wpAny_mono (turn i c t I oI C oC D m₂ ys h tk E' hk hC hx F N off ne) (fun y s₂ hq => ?_) fun _ _ e => e
      obtain ⟨h', tk', nw, e, F', N', off', hS, hn, t', hy'⟩ := hq
      rw [hn] at N' off' hS
      refine ⟨h', tk', news, e, F', N', off', hS, ?_⟩
      rw [hy']
      refine ih (i + 1) _ (by lia) ?_
      rw [List.range_succ, List.map_append]
      exact IntsAre.append hy (.cons (g i) t' .nil)
  exact key tx.cps.size 0 [] (by lia) .nil
end
/-- how often a letter stands in the text of the bench -/
theorem count_text {bs : List Nat} (hb : ∀ b ∈ bs, b < 4) {i : Nat} (hi : i < 4) : PySem.Txt.count (textB bs) ⟨#[97 + i]⟩ = cntI bs i := by
  rw [count_cnt]
  unfold textB
  have e : (PySem.Txt.join "" ((lets bs).map pieceT)).cps.toList = bs.flatMap fun b => [32, 97 + b] := by
    show (PySem.Txt.join (Str.ofString "") ((lets bs).map pieceT)).cps.toList = _
    rw [txt_join_empty]
    unfold lets
    rw [List.flatMap_map, List.flatMap_map]
    rfl
  rw [e]
  induction bs with
  | nil => rfl
  | cons b bs ih =>
    rw [List.flatMap_cons]
    have e2 : (PySem.Txt.join "" ((lets bs).map pieceT)).cps.toList = bs.flatMap fun b => [32, 97 + b] := by
      show (PySem.Txt.join (Str.ofString "") ((lets bs).map pieceT)).cps.toList = _
      rw [txt_join_empty]
      unfold lets
      rw [List.flatMap_map, List.flatMap_map]
      rfl
    show PyProof.Rows.cnt (97 + i) (32 :: (97 + b) :: bs.flatMap fun b => [32, 97 + b]) = _
    rw [PyProof.Rows.cnt_cons, PyProof.Rows.cnt_cons, ih (fun x hx => hb x (.tail _ hx)) e2]
    have h4 := hb b (.head _)
    have hc : cntI (b :: bs) i = cntI bs i + if b = i then 1 else 0 := by
      unfold cntI; rw [List.count_cons]
      by_cases h : b = i
      · subst h; simp
      · simp [h]
    rw [hc]
    have h32 : ¬ 32 = 97 + i := by lia
    rw [if_neg h32]
    by_cases h : b = i
    · rw [if_pos h, if_pos (by lia)]; lia
    · rw [if_neg h, if_neg (by lia)]; lia
theorem abcd_cp {i c : Nat} (h : (Str.ofString "abcd").cps[i]? = some c) : i < 4 ∧ c = 97 + i := by
  have hs : (Str.ofString "abcd").cps.size = 4 := by decide
  have hi : i < 4 := by
    apply Classical.byContradiction
    intro hn
    rw [Array.getElem?_eq_none (by lia)] at h
    cases h
  refine ⟨hi, ?_⟩
  rcases lt4 hi with e | e | e | e <;> subst e <;> (revert h; decide +revert)
theorem abcd_ascii : (Str.ofString "abcd").cps.all (· < 128) = true := by decide +kernel
theorem abcd_size : (Str.ofString "abcd").cps.size ≤ sizeLine := by rw [sizeLine_eq]; decide
theorem told_eq {way v0 v1 v2 v3 k : Int} {bs : List Nat} {σ : Nat} (hw : 0 ≤ way ∧ way < 3) (b0 : 1 ≤ v0 ∧ v0 ≤ 6) (b1 : 1 ≤ v1 ∧ v1 ≤ 6) (b2 : 1 ≤ v2 ∧ v2 ≤ 6) (b3 : 1 ≤ v3 ∧ v3 ≤ 6) (hbs : ∀ x ∈ bs, x < 4) (hl : bs.length = (seatsI way v0 v1 v2 v3 1).toNat) (G : GInv way v0 v1 v2 v3 bs)
    (k1 : 1 ≤ k) (k2 : k ≤ 13) (hσ : (seatsI way v0 v1 v2 v3 k).toNat = σ) : ((List.range (Str.ofString "abcd").cps.size).map (fun i => cntI (bs.take σ) i)) = List.map (fun vote => (2 * vote + (2 - way) * k).fdiv (2 * k)) [v0, v1, v2, v3] := by
  have hs : (Str.ofString "abcd").cps.size = 4 := by decide
  rw [hs]
  subst hσ
  have g := fun (i : Nat) (hi : i < 4) => greedy_end hw b0 b1 b2 b3 hbs hl G k1 k2 hi
  have g0 := g 0 (by decide)
  have g1 := g 1 (by decide)
  have g2 := g 2 (by decide)
  have g3 := g 3 (by decide)
  show [cntI _ 0, cntI _ 1, cntI _ 2, cntI _ 3] = _
  rw [g0, g1, g2, g3]
  rfl
theorem ints_dat {l : List (Addr × PySem.Obj)} : ∀ {vs : List PySem.Value} {ns : List Int}, IntsAre vs ns → DatAll l vs (ns.map Dat.int)
  | _, _, .nil => .nil
  | _, _, .cons n t h => .cons (.int n t) (ints_dat h)
theorem ints_ok (ns : List Int) : ∀ d ∈ ns.map Dat.int, kqdOk 8 d = true := fun d hd => by
  obtain ⟨n, _, rfl⟩ := List.mem_map.mp hd
  rfl
theorem stL_ne {z : PySem.Str} (h : stL.contains z = false) : z ≠ Str.ofString "off" ∧ z ≠ Str.ofString "told" := by
  constructor <;> (rintro rfl; revert h; decide)
end
theorem kw_E9a : True := (by k_with_none; w_top off; exact trivial)
section
open PySem PySem.W PyProof.Rows PySem.Calls PyProof.V PySem.Spec
/-- behind the last loop -/
noncomputable def Inv8 (P : PySem.Params) (h₀ : Heap) (L : Addr) (s s' : Shared) : Prop :=
  ∀ C : Shared → Prop, (∀ (h : Heap) (gs : Array GenState) (dr : Drawn) (tk : Nat) (u : PySem.Str → Option PySem.Value) (x dx ol : Addr) (vb : List PySem.Value) (tx1 tx2 tm : Tok) (κ n eo : Nat) (p1 p2 : Array PySem.Value) (o3 oz ot : PySem.Obj) (ks : List (Addr × PySem.Obj)) (bs : List Nat), (AllBare gs) → (Fr h₀ L h (fun y => if y = Str.ofString "off" then some (.ref ol) else if y = Str.ofString "made" then some (.str (textB bs) tm) else if y = Str.ofString "bench" then some (.ref x) else u y)) → (News h₀ L h ((x, accObj 99 dx (vb.take κ) n) :: (dx, accD P tx1 tx2) :: (69, o3) :: (L + 1 + 1, oz) :: (L + 1 + 1 + 1, ot) :: (ol, listOf (vb.drop κ).toArray eo) :: ks)) → (TabG 27 32 o3) → ((119, tabObj p1) ∈ ks) → ((126, tabObj p2) ∈ ks) → (DatAll ks vb ((lets bs).map pieceD)) → (bs.length ≤ 28) → ((∀ p ∈ ks, p.1 ≠ x ∧ p.1 ≠ dx ∧ p.1 ≠ 69 ∧ p.1 ≠ L + 1 + 1 ∧ p.1 ≠ L + 1 + 1 + 1)) → ((dx ≠ x ∧ x ≠ 69 ∧ x ≠ L + 1 + 1 ∧ x ≠ L + 1 + 1 + 1 ∧ dx ≠ 69 ∧ dx ≠ L + 1 + 1 ∧ dx ≠ L + 1 + 1 + 1 ∧ 69 ≠ L + 1 + 1 ∧ 69 ≠ L + 1 + 1 + 1)) → ((ol ≠ x ∧ ol ≠ dx ∧ ol ≠ 69 ∧ ol ≠ L + 1 + 1 ∧ ol ≠ L + 1 + 1 + 1)) → C { heap := h, gens := gs, drawn := dr, toks := tk, os := s.os }) → C s'
theorem inv8_of {P : PySem.Params} {h₀ h : Heap} {L : Addr} {s : Shared} {gs : Array GenState} {dr : Drawn} {tk : Nat} {u : PySem.Str → Option PySem.Value} {x dx ol : Addr} {vb : List PySem.Value} {tx1 tx2 tm : Tok} {κ n eo : Nat} {p1 p2 : Array PySem.Value} {o3 oz ot : PySem.Obj} {ks : List (Addr × PySem.Obj)} {bs : List Nat}
    (hG : AllBare gs) (F : Fr h₀ L h u) (m1 : u (Str.ofString "off") = some (.ref ol)) (m2 : u (Str.ofString "made") = some (.str (textB bs) tm)) (m3 : u (Str.ofString "bench") = some (.ref x))
    (N : News h₀ L h ((x, accObj 99 dx (vb.take κ) n) :: (dx, accD P tx1 tx2) :: (69, o3) :: (L + 1 + 1, oz) :: (L + 1 + 1 + 1, ot) :: (ol, listOf (vb.drop κ).toArray eo) :: ks))
    (h3 : TabG 27 32 o3) (m119 : (119, tabObj p1) ∈ ks) (m126 : (126, tabObj p2) ∈ ks) (hDb : DatAll ks vb ((lets bs).map pieceD)) (hl : bs.length ≤ 28)
    (hks : ∀ p ∈ ks, p.1 ≠ x ∧ p.1 ≠ dx ∧ p.1 ≠ 69 ∧ p.1 ≠ L + 1 + 1 ∧ p.1 ≠ L + 1 + 1 + 1)
    (hne : dx ≠ x ∧ x ≠ 69 ∧ x ≠ L + 1 + 1 ∧ x ≠ L + 1 + 1 + 1 ∧ dx ≠ 69 ∧ dx ≠ L + 1 + 1 ∧ dx ≠ L + 1 + 1 + 1 ∧ 69 ≠ L + 1 + 1 ∧ 69 ≠ L + 1 + 1 + 1)
    (hol : ol ≠ x ∧ ol ≠ dx ∧ ol ≠ 69 ∧ ol ≠ L + 1 + 1 ∧ ol ≠ L + 1 + 1 + 1) : Inv8 P h₀ L s { heap := h, gens := gs, drawn := dr, toks := tk, os := s.os } := by
  have F1 := fr_known (x := Str.ofString "bench") (v := .ref x) m3 F
  have F2 := fr_known (x := Str.ofString "made") (v := .str (textB bs) tm) (by show (if _ then _ else _) = _; rw [if_neg (by decide)]; exact m2) F1
  have F3 := fr_known (x := Str.ofString "off") (v := .ref ol) (by show (if _ then _ else _) = _; rw [if_neg (by decide)]; show (if _ then _ else _) = _; rw [if_neg (by decide)]; exact m1) F2
  exact fun _ k => k h gs dr tk u x dx ol vb tx1 tx2 tm κ n eo p1 p2 o3 oz ot ks bs hG F3 N h3 m119 m126 hDb hl hks hne hol
theorem Inv8.all {P : PySem.Params} {h₀ : Heap} {L : Addr} {s : Shared} {C : Shared → Prop} (k : ∀ (h : Heap) (gs : Array GenState) (dr : Drawn) (tk : Nat) (u : PySem.Str → Option PySem.Value) (x dx ol : Addr) (vb : List PySem.Value) (tx1 tx2 tm : Tok) (κ n eo : Nat) (p1 p2 : Array PySem.Value) (o3 oz ot : PySem.Obj) (ks : List (Addr × PySem.Obj)) (bs : List Nat), (AllBare gs) → (Fr h₀ L h (fun y => if y = Str.ofString "off" then some (.ref ol) else if y = Str.ofString "made" then some (.str (textB bs) tm) else if y = Str.ofString "bench" then some (.ref x) else u y)) → (News h₀ L h ((x, accObj 99 dx (vb.take κ) n) :: (dx, accD P tx1 tx2) :: (69, o3) :: (L + 1 + 1, oz) :: (L + 1 + 1 + 1, ot) :: (ol, listOf (vb.drop κ).toArray eo) :: ks)) → (TabG 27 32 o3) → ((119, tabObj p1) ∈ ks) → ((126, tabObj p2) ∈ ks) → (DatAll ks vb ((lets bs).map pieceD)) → (bs.length ≤ 28) → ((∀ p ∈ ks, p.1 ≠ x ∧ p.1 ≠ dx ∧ p.1 ≠ 69 ∧ p.1 ≠ L + 1 + 1 ∧ p.1 ≠ L + 1 + 1 + 1)) → ((dx ≠ x ∧ x ≠ 69 ∧ x ≠ L + 1 + 1 ∧ x ≠ L + 1 + 1 + 1 ∧ dx ≠ 69 ∧ dx ≠ L + 1 + 1 ∧ dx ≠ L + 1 + 1 + 1 ∧ 69 ≠ L + 1 + 1 ∧ 69 ≠ L + 1 + 1 + 1)) → ((ol ≠ x ∧ ol ≠ dx ∧ ol ≠ 69 ∧ ol ≠ L + 1 + 1 ∧ ol ≠ L + 1 + 1 + 1)) → C { heap := h, gens := gs, drawn := dr, toks := tk, os := s.os }) : ∀ s', Inv8 P h₀ L s s' → C s' := fun _ H => H C k

end
theorem kw_E9b : True := (by k_with_none; w_top off; exact trivial)
section
open PySem PySem.W PyProof.Rows PySem.Calls PyProof.V PySem.Spec
noncomputable def GoodN (c : ClaimW) (cl : PySem.Str → Option Addr) (mean : ExcName → Option PySem.Value) (args : List WData) (s₁ : Shared) (res : Result) (s' : Shared) : Prop :=
  ((∃ v d as, res = .ok (.ret v) ∧ (∀ cls, c.raises args cls = false) ∧ ReadsW c.records cl s'.heap v d as ∧ c.post args d args = true ∧
      (c.unshared = true → as.Nodup ∧ ∀ a ∈ as, s₁.heap.get? a = none)) ∨
    (∃ e ob cls, res = .error (.ref e) ∧ s'.heap.get? e = some ob ∧ mean cls = some ob.cls ∧ c.raises args cls = true ∧ s₁.heap.get? e = none)) ∧
  (∀ b o, s₁.heap.get? b = some o → s'.heap.get? b = some o) ∧ s'.os = s₁.os ∧ AllBare s'.gens
theorem my_post {M : Model} {A : Around} {cd : Code} {s s₁ : Shared} {cw : ClaimW} {cl : PySem.Str → Option Addr} {mean : ExcName → Option PySem.Value} {args : List WData} {tabs : List (Addr × Addr)} (hT : TabsAt tabs s₁.heap) (hr : ∀ a x, cw.raises a x = false)
    (h : codeAny M A cd (fun r s' => GoodN cw cl mean args { s₁ with heap := ghostOf s₁.heap tabs } r s' ∧ GrownAll tabs s'.heap) s) : codeAny M A cd (GoodWG cw cl mean args s₁) s :=
  codeAny_mono h fun r s' ⟨⟨hc, hk, hos, hg⟩, hgr⟩ => by
    have keep : ∀ b o, b ∉ tabs.map (·.2) → s₁.heap.get? b = some o → s'.heap.get? b = some o := fun b o hb e => hk b o (ghost_ne e hb)
    have grown : ∀ b o, b ∈ tabs.map (·.2) → s₁.heap.get? b = some o → isCodeTable s₁.heap b ∧ o = tabObj #[] ∧ ∃ ps, s'.heap.get? b = some (tabObj ps) := fun b o hb e => by
      obtain ⟨q, hq, rfl⟩ := List.mem_map.mp hb
      have e2 := (hT q hq).2
      rw [e] at e2
      exact ⟨((hT q hq).1.tab (hT q hq).2).isCodeTable, Option.some.inj e2, hgr.get q hq⟩
    refine ⟨?_, ⟨fun b o e => ?_, fun b o e => ?_⟩, hos, hg⟩
    · rcases hc with ⟨v, d, as, r1, r2, r3, r4, r5⟩ | ⟨e, ob, x, _, _, _, r4, _⟩
      · refine .inl ⟨v, d, as, r1, r2, r3, r4, fun q => ⟨(r5 q).1, fun a ha => ?_⟩⟩
        cases q1 : s₁.heap.get? a with
        | none => rfl
        | some o =>
          by_cases hb : a ∈ tabs.map (·.2)
          · obtain ⟨_, _, ps, hP⟩ := grown a o hb q1
            exact absurd ha (readsW_apart hP rfl r3)
          · have e3 := (r5 q).2 a ha
            rw [show (ghostOf s₁.heap tabs).get? a = some o from ghost_ne q1 hb] at e3
            cases e3
      · rw [hr] at r4; cases r4
    · by_cases hb : b ∈ tabs.map (·.2)
      · obtain ⟨ht, rfl, ps, hP⟩ := grown b o hb e
        exact .inr (.inl ⟨ht, rfl, #[], ps, rfl, by rw [Array.empty_append]; exact hP⟩)
      · exact .inl (keep b o hb e)
    · by_cases hb : b ∈ tabs.map (·.2)
      · obtain ⟨_, _, ps, hP⟩ := grown b o hb e
        exact ⟨_, hP⟩
      · exact ⟨o, keep b o hb e⟩
theorem goodN_bool {c : ClaimW} {cl : PySem.Str → Option Addr} {mean : ExcName → Option PySem.Value} {args : List WData} {s₁ s' : Shared} {L : Addr} {m : PySem.Str → Option PySem.Value} {b : Bool} (F : Fr s₁.heap L s'.heap m) (hg : AllBare s'.gens) (hn : ∀ cls, c.raises args cls = false) (hp : c.post args (.bool b) args = true) (hos : s'.os = s₁.os) :
    GoodN c cl mean args s₁ (.ok (.ret (.bool b))) s' :=
  ⟨.inl ⟨.bool b, .bool b, [], rfl, hn, .bool b, hp, unshared_nil⟩, F.keep, hos, hg⟩
theorem TabG.tab {a b : Int} {o : PySem.Obj} (h : TabG a b o) : ∃ ps, o = tabObj ps := by
  rcases h with h | ⟨c, h⟩
  · exact ⟨_, h⟩
  · exact ⟨_, h⟩
end
section
open Lean Elab Tactic Meta
theorem kw_fin : True := (by k_with_none; exact trivial)
local macro_rules | `(tactic| walk_at "call ref") => `(tactic| (k_here; (with_reducible show wpAny _ _ (call (Value.ref 216) _) _ _ _); k_dflt (refine' lead_spec (by k_asm) (by k_asm) (by k_asm) (by k_asm) (by k_asm) (by first | rfl | assumption) (by k_mem) (by first | assumption | (repeat constructor)) (by first | exact rng_dbl (by assumption) (by assumption) (by assumption) (by assumption) | (repeat (first | exact rng_nil | (refine rng_cons (by lia) ?_)))) (by exact Nat.le_of_ble_eq_true rfl) (by ktr_room) (by ktr_units) ?_); intro x' tl' h' tk' F' N0 l1' W'; (have N' := news_swap N0); clear N0; (try simp only [List.cons_append, List.nil_append] at N'); (have Wl := ws_len W'); k_dflt (replace l1' : Above _ _ := l1'); (try dsimp only)))
local macro_rules | `(tactic| walk_at "call ref") => `(tactic| (k_here; (with_reducible show wpAny _ _ (call (Value.ref 221) _) _ _ _); k_dflt (refine' gains_spec (by k_asm) (by k_asm) (by k_asm) (by k_asm) (by k_asm) (by first | rfl | assumption) (by k_mem) (by assumption) (by assumption) (by assumption) (by assumption) (by ktr_room) (by ktr_units) ?_); intro l' vs' e' tl' h' tk' F' N' o1' l1' W'; (try dsimp only)))
local macro_rules | `(tactic| walk_at "call ref") => `(tactic| (k_here; (with_reducible show wpAny _ _ (call (Value.ref 190) _) _ _ _); k_dflt (refine' witness_spec2 (by k_asm) (by k_asm) (by k_asm) (by k_asm) (by k_asm) (by first | rfl | assumption) (by (refine' WsAt.mono (by assumption) (by walk_at "sub"))) (by (refine' WsAt.mono (by assumption) (by walk_at "sub"))) (by ktr_room) (by ktr_units) ?_); intro l' vs' e' tl' h' tk' F' N' o1' l1' W'; (try dsimp only)))
local macro_rules | `(tactic| walk_at "getMethod ref") => `(tactic| (k_here; (with_reducible show wpAny _ _ (getMethod (Value.ref _) (PySem.Str.ofString "not_equal_witness") _) _ _ _); k_dflt (refine' ws_witness (by k_asm) (by k_asm) (by k_asm) (by assumption) (by walk_at "sub") ?_)))
local macro_rules | `(tactic| walk_at "subscriptTail Name Slice ref ref") => `(tactic| (k_here; k_dflt (refine' slice_from (by k_asm) (by k_asm) (by k_mem) (by (repeat constructor)) (by decide) (by exact Int.ofNat_le.mpr (Nat.le_of_ble_eq_true rfl)) (by exact Nat.le_of_ble_eq_true rfl) ?_ (by with_unfolding_all rfl) (by intro _; with_unfolding_all rfl)); intro D' ws' h' F' N' l1 hI'; (try k_lt l1)))
local macro_rules | `(tactic| walk_at "binaryOp Add ref ref") => `(tactic| (k_here; k_dflt (refine' add_two ?fF ?fN ?fm ?fb ?fi ?fj ?fz ?_; (case fF => k_asm); (case fN => k_asm); (case fm => k_mem); (case fb => k_mem); (case fj => assumption); (case fi => (repeat constructor)); (case fz => exact Nat.le_of_ble_eq_true rfl)); intro D' h' F' N' l1 hI'; (try k_lt l1)))
local macro_rules | `(tactic| walk_at "eval ListComp") => `(tactic| (k_here; k_dflt (refine LCg.ListComp_U (F₀ := by k_asm) (by with_unfolding_all rfl) (by decide) (by rfl) (by decide) (by rfl) ?_)))
local macro_rules | `(tactic| walk_at "CompSrc") => `(tactic| (k_here; k_dflt (refine LCg.CompSrc.ledger (by rfl) (by k_asm) (by k_asm) (by k_mem) (by kcf_size) ?_; intro g'; (refine' kcf_list _ (by with_reducible assumption) (fun k' t' I' oI' C' oC' D' m' ys' h' tk' E' hk' hC' hx' F' N' off' ne' hMark' => ?_) ?_); (all_goals (try (simp only [LCg.Off3, and_true] at off'))); kcf_last)))
local macro_rules | `(tactic| walk_at "getMethod ref") => `(tactic| (k_here; (with_reducible show wpAny _ _ (getMethod (Value.ref _) (PySem.Str.ofString "indent_level") _) _ _ _); k_dflt (refine' ws_indent (by k_asm) (by k_asm) (by k_asm) (by with_reducible assumption) (by walk_at "sub") ?_)))
local macro_rules | `(tactic| walk_at "call ref") => `(tactic| (k_here; (with_reducible show wpAny _ _ (call (Value.ref 176) _) _ _ _); k_dflt (refine' indent_spec (by k_asm) (by k_asm) (by k_asm) (by k_asm) (by k_asm) (by first | rfl | assumption) (by (refine' WsAt.mono (by with_reducible assumption) (by walk_at "sub"))) (by lia) (by lia) (by ktr_room) (by ktr_units) ?_); intro t' h' tk' F' N'; (try dsimp only)))
local macro_rules | `(tactic| walk_at "call ref") => `(tactic| (k_here; (with_reducible show wpAny _ _ (call (Value.ref 99) _) _ _ _); k_dflt (refine' acc_new (by k_asm) (by k_asm) (by k_asm) (by k_asm) (by k_asm) (by first | rfl | assumption) (by ktr_room) (by ktr_units) ?_); intro x' dx' tx1 tx2 h' tk' F' N' lx' lxd'; (try dsimp only)))
local macro_rules | `(tactic| mul_fits) => `(tactic| exact PySem.IntMulOk.of_left (PySem.intBits_le_64 (by lia) (by lia)))
theorem law_holds : PySem.Challenge.rw_sr0071_01.Holds := hd (by
  k_fill
  intro w s₀ s₁ mg mb G Y fa o pm cd doc dV kV ho hd hcd hD hmg hg args vals as hpre hlay hrd hwl hlo
  have KX := km_in_of Y
  have hT8 := km_tabs_of Y
  have X := (Ground.X G).1
  have V := (Ground.X G).2
  refine Ground.open G ?_
  intro T B D TE TW
  try (refine guard_noD D (by decide +kernel) ?_; clear D)
  have hT9 : TabsAt ([(130, 126), (123, 119), (73, 69)] : List (Addr × Addr)) _ := List.forall_mem_cons.mpr ⟨⟨codeHd_of_K (c := 130) (P := 126) KX (by kernel_rfl), hT8 126 (by k_mem)⟩, List.forall_mem_cons.mpr ⟨⟨codeHd_of_K (c := 123) (P := 119) KX (by kernel_rfl), hT8 119 (by k_mem)⟩, List.forall_mem_cons.mpr ⟨⟨codeHd_of_K (c := 73) (P := 69) KX (by kernel_rfl), hT8 69 (by k_mem)⟩, fun _ h => nomatch h⟩⟩⟩
  clear hmg
  wrow_args hpre hlay hrd hwl hlo
  all_goals (
    first | refine callC_kw (enter_call ?_) | refine enter_call ?_
    w_top on
    refine my_post hT9 (fun _ _ => rfl) ?_
    w_call any ho hd hcd hD T F
    clear hd
    kn_ghosts F T
    k_drop
    skip)
  (try k_fold)
  have hG : AllBare s₁.gens := AllBare.of_eq hg
  rename Top topProg _ _ _ _ _ => T0
  have T9 : Top topProg LS (ExcName.means s₀.heap) mg mb (ghostOf s₁.heap [(130, 126), (123, 119), (73, 69)]) := T0
  clear T0
  refine @cut _ _ _ _ _ _ _ 5 (Inv1 (ghostOf s₁.heap [(130, 126), (123, 119), (73, 69)]) s₁.heap.objs.size s₁) ?_ ?_
  · dsimp only [List.take]
    iterate 25 (first | walk1 | (dsimp only; walk1))
    case hE => passes_own
    rename PairSrcL _ _ _ _ _ _ _ _ _ _ _ _ => hP
    refine drawn_loop (nm := Str.ofString "drawn") (ns0 := [3, 0, 4, 1, 2]) hP ?hi (by rfl) ?h00 (by rfl) (by decide) (by decide) ?turn ?done
    case hi => repeat constructor
    case h00 => decide
    case turn =>
      intro i a' t ta vs e ns u h tk own hi h5 h0 hown F N
      clear hP
      dsimp only [List.cons_append, List.nil_append] at N
      have hlen := hi.length
      have hb5 : 0 ≤ (i : Int).fmod 5 ∧ (i : Int).fmod 5 < 5 := ⟨Int.fmod_nonneg_of_pos _ (by decide), Int.fmod_lt_of_pos _ (by decide)⟩
      repeat (first | walk1 | (dsimp only; walk1))
      rename IntsAre _ (List.set _ _ _) => hi9
      exact drawn_end (nm := Str.ofString "drawn") (s := { s₁ with heap := _, toks := _ }) (by assumption) (by assumption) rfl hi9 h5 h0 (Int.fmod_nonneg_of_pos _ (by decide)) rfl
    case done =>
      intro vs e ns u h tk hi h5 h0 F N
      clear hP
      have hlen := hi.length
      repeat (first | walk1 | (dsimp only; walk1))
      refine inv1_of (s := s₁) (by assumption) (by assumption) (by assumption) (by assumption) (by assumption) (by assumption) h5 (by assumption) (And.left (by assumption))
  · refine Inv1.all ?_
    intro h tk u vl v0 v1 v2 v3 way late t0 t1 t2 t3 tl tw e ot os ow ct cz F N hw ht hz b0 b1 b2 b3 bw bl ovl
    dsimp only [List.drop]
    refine @cut _ _ _ _ _ _ _ 5 (Inv2 w.params (ghostOf s₁.heap [(130, 126), (123, 119), (73, 69)]) s₁.heap.objs.size s₁) ?_ ?_
    · clear hG
      dsimp only [List.take]
      iterate 74 (first | walk1 | (dsimp only; walk1))
      k_dflt (refine' ne_same ?nN ?na ?nb ?nDa ?nDb ?nsa ?nsb ?ned ?nok ?nu ?_)
      case nN => k_asm
      case na => exact List.Mem.head _
      case nb => exact List.Mem.tail _ (List.mem_append_left _ (List.Mem.head _))
      case nDa => with_reducible assumption
      case nDb => with_reducible assumption
      case nsa => exact fun _ hp => List.Mem.tail _ hp
      case nsb => exact fun _ hp => List.Mem.tail _ (List.mem_append_left _ (List.Mem.tail _ hp))
      case ned => exact wit_gain b0 b1 b2 b3 rfl rfl rfl rfl
      case nok => exact wit_ok
      case nu => ktr_units
      iterate 15 (first | walk1 | (dsimp only; walk1))
      k_dflt (refine' swap_comp ?sF ?sN ?sax ?sD ?ssub ?sT ?ssz ?shh ?sclos ?scell ?skind ?snames ?sx ?sy ?sz ?sxy ?sxz ?syz ?shit ?sld ?sfin)
      case sF => k_asm
      case sN => k_asm
      case sax => exact List.Mem.tail _ (List.mem_append_left _ (List.Mem.tail _ (List.mem_append_left _ (List.Mem.head _))))
      case sD => with_reducible assumption
      case ssub => walk_at "sub"
      case sT => exact gains_tri _ _ _ _
      case ssz => exact gains_len b0 b1 b2 b3
      case shh => rfl
      case sclos => with_unfolding_all rfl
      case scell => decide
      case skind => rfl
      case snames => decide
      case sx => rfl
      case sy => rfl
      case sz => rfl
      case sxy => decide
      case sxz => decide
      case syz => decide
      case shit => (intro Q' hq; walk1; exact hq)
      case sld => (rintro C n (rfl | rfl | rfl) <;> exact ⟨rfl, rfl, rfl⟩)
      intro l' vs' e' tl' h' tk' F' N' l1' W'
      (try dsimp only)
      k_dflt (refine' ne_same ?nN ?na ?nb ?nDa ?nDb ?nsa ?nsb ?ned ?nok ?nu ?_)
      case nN => k_asm
      case na => exact List.Mem.tail _ (List.mem_append_right _ (List.Mem.head _))
      case nb => exact List.Mem.head _
      case nDa => with_reducible assumption
      case nDb => with_reducible assumption
      case nsa => exact fun _ hp => List.Mem.tail _ (List.mem_append_right _ (List.Mem.tail _ hp))
      case nsb => exact fun _ hp => List.Mem.tail _ hp
      case ned => exact wit_gain2 b0 b1 b2 b3 rfl rfl rfl rfl
      case nok => exact wit_ok
      case nu => ktr_units
      iterate 4 (first | walk1 | (dsimp only; walk1))
      k_dflt (refine' inv2_of (P := w.params) (ot := ot) (os := os) (ow := ow) ?fF ?fN ?fW ?fnt ?flt ?fm1 ?fm2 ?fsub ?fhw ?fht ?fhz b0 b1 b2 b3 bw bl ovl)
      case fF => k_asm
      case fN => k_asm
      case fW => with_reducible assumption
      case fnt => rfl
      case flt => first | with_reducible assumption | exact (show Above _ _ from (by with_reducible assumption))
      case fm1 => k_mem
      case fm2 => k_mem
      case fsub => (intro p hp; refine sub_of hp ?_; walk_at "sub")
      case fhw => assumption
      case fht => assumption
      case fhz => assumption
    · clear h tk u vl v0 v1 v2 v3 way late t0 t1 t2 t3 tl tw e ot os ow ct cz F N hw ht hz b0 b1 b2 b3 bw bl ovl
      refine Inv2.all ?_
      intro h tk u vl xa v0 v1 v2 v3 way late t0 t1 t2 t3 tl tw e ot os ow ct cz ta vg vt F N Wa hw ht hz b0 b1 b2 b3 bw bl ovl lta
      dsimp only [List.drop]
      dsimp only [List.cons_append, List.nil_append] at N
      have Wl := ws_len Wa
      have hviN : ∃ vv : List PySem.Value, IntsAre vv [v0, v1, v2, v3] ∧ News (ghostOf s₁.heap [(130, 126), (123, 119), (73, 69)]) s₁.heap.objs.size h ((vl, listOf vv.toArray e) :: (s₁.heap.objs.size + 1 + 1 + 1, ot) :: (s₁.heap.objs.size + 1 + 1, os) :: (s₁.heap.objs.size + 1, ow) :: (126, tabObj #[]) :: (119, tabObj #[]) :: (69, tabObj #[]) :: ta) := ⟨_, by repeat constructor, N⟩
      clear N
      obtain ⟨vv, hvi, N⟩ := hviN
      have hvl := hvi.length
      dsimp only [List.length_cons, List.length_nil] at hvl
      have lta' : ∀ p ∈ ta, s₁.heap.objs.size + 1 + 1 + 1 < p.1 := fun p hp => (lta p hp).2
      refine @cut _ _ _ _ _ _ _ 2 (Inv3 w.params (ghostOf s₁.heap [(130, 126), (123, 119), (73, 69)]) s₁.heap.objs.size s₁) ?_ ?_
      · clear hG
        dsimp only [List.take]
        have hway : way = 0 ∨ way = 1 ∨ way = 2 := by lia
        rcases hway with rfl | rfl | rfl
        all_goals (
          iterate 76 (first | walk1 | (dsimp only; walk1))
          rename Above _ _ => k3
          replace k3 := tl_above (a := s₁.heap.objs.size + 1 + 1 + 1) (o := ot) k3 (by k_mem)
          rename Above _ _ => k2
          replace k2 := tl_above (a := s₁.heap.objs.size + 1 + 1 + 1) (o := ot) k2 (by k_mem)
          rename Above _ _ => k1
          replace k1 := tl_above (a := s₁.heap.objs.size + 1 + 1 + 1) (o := ot) k1 (by k_mem)
          k_dflt (refine' inv3_of (P := w.params) (ot := ot) (os := os) (ow := ow) (e := e) ?fF ?fN ?fWU ?fWL (app_above (app_above (app_above lta' k1) k2) k3) ?fsU ?fsL ?fsub ?fhl hvi ?fhw ?fht ?fhz b0 b1 b2 b3 bw bl ovl)
          case fF => k_asm
          case fN => k_asm
          case fWU => with_reducible assumption
          case fWL => with_reducible assumption
          case fsU => (intro p hp; refine sub_of hp ?_; walk_at "sub")
          case fsL => (intro p hp; refine sub_of hp ?_; walk_at "sub")
          case fsub => (intro p hp; refine sub_of hp ?_; walk_at "sub")
          case fhl => first | ((have hbq : 0 ≤ (0 : Int) ∧ (0 : Int) < 3 := (by with_reducible exact bw)); exact fun k hk => lead0 b0.1 b1.1 b2.1 b3.1 hk) | ((have hbq : 0 ≤ (1 : Int) ∧ (1 : Int) < 3 := (by with_reducible exact bw)); exact fun k hk => lead1 b0.1 b1.1 b2.1 b3.1 hk) | exact fun k hk => lead2 b0.1 b1.1 b2.1 b3.1 hk
          case fhw => assumption
          case fht => assumption
          case fhz => assumption)
      · clear h tk u vl xa v0 v1 v2 v3 way late t0 t1 t2 t3 tl tw e ot os ow ct cz ta vg vt F N Wa hw ht hz b0 b1 b2 b3 bw bl ovl lta Wl hvl lta' vv hvi
        refine Inv3.all ?_
        intro h tk u vl ua la nsU nsL ntU ntL v0 v1 v2 v3 way late vv tl tw e ot os ow ct cz ta vg vt va F N WU WL hlv hvi hw ht hz b0 b1 b2 b3 bw bl ovl lta
        dsimp only [List.drop]
        have hvl := hvi.length
        dsimp only [List.length_cons, List.length_nil] at hvl
        refine @cut _ _ _ _ _ _ _ 2 (Inv4 (ghostOf s₁.heap [(130, 126), (123, 119), (73, 69)]) s₁.heap.objs.size s₁) ?_ ?_
        · dsimp only [List.take]
          iterate 7 (first | walk1 | (dsimp only; walk1))
          rename Addr => sl
          refine my_For ?_
          iterate 9 (first | walk1 | (dsimp only; walk1))
          rename IsRange _ _ _ _ _ _ _ _ => hr
          rename Fr _ _ _ _ => F2
          rename News _ _ _ _ => N2
          rename (And _ (And _ (And _ (And _ (And _ (And _ (And _ (AllLt _ _)))))))) => l1
          obtain ⟨l1a, l1b, l1c, l1d, l1e, l1f, l1g, l1h⟩ := l1
          have l1t := allLt_out l1h
          refine' seats_loop (fun k => seatsI way v0 v1 v2 v3 k) (by rfl) (by rfl) hr F2 N2 hz hG (fun _ => rfl) (by passes_own) ?turn ?done
          case turn =>
            clear F2 N2 hr
            intro i k t vs es o1 o2 oz cz' tl' h' gs dr tk' I oI hi hk hGs hor hoz S1 S2 hD hoff oII oIa oIt F9 N9
            have ta2 : ∀ p ∈ ta, p.1 ≠ s₁.heap.objs.size + 1 + 1 := fun p hp => Nat.ne_of_gt (Nat.lt_of_succ_lt (lta p hp))
            have tl2 : ∀ p ∈ tl', p.1 ≠ s₁.heap.objs.size + 1 + 1 := fun p hp => hoff p hp _ (by simp)
            have tasl := all_lt l1t
            have tlsl := OwnOff.ne hoff (b := _) (List.mem_cons_of_mem _ (List.mem_cons_of_mem _ (List.mem_cons_self)))
            have oII' := oII
            simp only [adr8, List.mem_cons, List.not_mem_nil, or_false, forall_eq_or_imp, forall_eq] at oII'
            obtain ⟨i1, i2, i3, i4, i5, i6, i7, i8⟩ := oII'
            have i9 : s₁.heap.objs.size + 1 + 1 ≠ I := fun e => i4 e.symm
            have hall : ∀ p ∈ (119, o1) :: (126, o2) :: (sl, listOf vs.toArray es) :: (vl, listOf vv.toArray e) :: (s₁.heap.objs.size + 1 + 1 + 1, ot) :: (s₁.heap.objs.size + 1, ow) :: (69, tabObj #[]) :: (ta ++ tl' ++ [(I, oI)]), p.1 ≠ s₁.heap.objs.size + 1 + 1 := by
              refine List.forall_mem_cons.mpr ⟨ne_of119 ovl.2.2.2.2.2.2, List.forall_mem_cons.mpr ⟨ne_of126 ovl.2.2.2.2.2.2, List.forall_mem_cons.mpr ⟨Nat.ne_of_gt l1c, List.forall_mem_cons.mpr ⟨ovl.2.1, List.forall_mem_cons.mpr ⟨Nat.succ_ne_self _, List.forall_mem_cons.mpr ⟨(Nat.succ_ne_self _).symm, List.forall_mem_cons.mpr ⟨ne_of69 ovl.2.2.2.2.2.2, all_app (all_app ta2 tl2) (List.forall_mem_cons.mpr ⟨i4, List.forall_mem_nil _⟩)⟩⟩⟩⟩⟩⟩⟩
            have Nz : News (ghostOf s₁.heap [(130, 126), (123, 119), (73, 69)]) s₁.heap.objs.size h' ((s₁.heap.objs.size + 1 + 1, oz) :: (119, o1) :: (126, o2) :: (sl, listOf vs.toArray es) :: (vl, listOf vv.toArray e) :: (s₁.heap.objs.size + 1 + 1 + 1, ot) :: (s₁.heap.objs.size + 1, ow) :: (69, tabObj #[]) :: (ta ++ tl' ++ [(I, oI)])) := fun p hp => N9 p (by
              refine sub_of hp ?_
              walk_at "sub")
            clear N9
            walk1
            k_dflt (refine' storeX_C F9 Nz rfl (UpdF.head hall) hoz ?_ rfl rfl)
            clear hall
            intro h9 oz9 F8 N8 hz9
            clear F9 Nz hoz
            (try dsimp only at N8)
            iterate 36 (first | walk1 | (dsimp only; walk1))
            rename News _ _ _ _ => N7
            rename Fr _ _ _ _ => F7
            have L0 := ovl.2.2.2.2.2.2
            have hk13 : 1 ≤ k ∧ k ≤ 13 := ⟨by lia, by lia⟩
            have hn1 : ∀ p ∈ (sl, listOf vs.toArray es) :: (s₁.heap.objs.size + 1 + 1, oz9) :: (vl, listOf vv.toArray e) :: (s₁.heap.objs.size + 1 + 1 + 1, ot) :: (s₁.heap.objs.size + 1, ow) :: (69, tabObj #[]) :: (ta ++ tl' ++ [(I, oI)]), p.1 ≠ 119 :=
              List.forall_mem_cons.mpr ⟨far119 l1e, List.forall_mem_cons.mpr ⟨far119 (above2 L0), List.forall_mem_cons.mpr ⟨ovl.2.2.2.2.1, List.forall_mem_cons.mpr ⟨far119 (above3 L0), List.forall_mem_cons.mpr ⟨far119 (above1 L0), List.forall_mem_cons.mpr ⟨(by decide), all_app (all_app (fun p hp => far119 (Nat.lt_trans (above3 L0) (lta p hp))) (fun p hp => hoff p hp _ (by simp))) (List.forall_mem_cons.mpr ⟨i1, List.forall_mem_nil _⟩)⟩⟩⟩⟩⟩⟩
            have hn2 : ∀ p ∈ (sl, listOf vs.toArray es) :: (s₁.heap.objs.size + 1 + 1, oz9) :: (vl, listOf vv.toArray e) :: (s₁.heap.objs.size + 1 + 1 + 1, ot) :: (s₁.heap.objs.size + 1, ow) :: (69, tabObj #[]) :: (ta ++ tl' ++ [(I, oI)]), p.1 ≠ 126 :=
              List.forall_mem_cons.mpr ⟨Nat.ne_of_gt l1e, List.forall_mem_cons.mpr ⟨Nat.ne_of_gt (above2 L0), List.forall_mem_cons.mpr ⟨ovl.2.2.2.1, List.forall_mem_cons.mpr ⟨Nat.ne_of_gt (above3 L0), List.forall_mem_cons.mpr ⟨Nat.ne_of_gt (above1 L0), List.forall_mem_cons.mpr ⟨(by decide), all_app (all_app (fun p hp => Nat.ne_of_gt (Nat.lt_trans (above3 L0) (lta p hp))) (fun p hp => hoff p hp _ (by simp))) (List.forall_mem_cons.mpr ⟨i2, List.forall_mem_nil _⟩)⟩⟩⟩⟩⟩⟩
            have N6 : News (ghostOf s₁.heap [(130, 126), (123, 119), (73, 69)]) s₁.heap.objs.size _ ((119, o1) :: (126, o2) :: (sl, listOf vs.toArray es) :: (s₁.heap.objs.size + 1 + 1, oz9) :: (vl, listOf vv.toArray e) :: (s₁.heap.objs.size + 1 + 1 + 1, ot) :: (s₁.heap.objs.size + 1, ow) :: (69, tabObj #[]) :: (ta ++ tl' ++ [(I, oI)])) := fun p hp => N7 p (by
              refine sub_of hp ?_
              walk_at "sub")
            k_dflt (refine' seat_spec (q := seatsI way v0 v1 v2 v3 k) ?qB F7 ?qX N6 ?qT ?qk ?qC1 ?qC2 hn1 hn2 ?qS1 ?qS2 (hlv k hk13.1) ?q0 ?q1 hk13 ?qd ?qu ?_)
            case qB => k_asm
            case qX => k_asm
            case qT => k_asm
            case qk => rfl
            case qC1 => exact (ghost_code hT9).2.1
            case qC2 => exact (ghost_code hT9).1
            case qS1 => (refine S1.mono ?_; intro p hp; refine sub_of hp ?_; walk_at "sub")
            case qS2 => (refine S2.mono ?_; intro p hp; refine sub_of hp ?_; walk_at "sub")
            case q0 => exact (hlv k hk13.1).symm ▸ Int.mul_nonneg (by lia) (seats_nonneg bw b0.1 b1.1 b2.1 b3.1 hk13.1)
            case q1 => exact (hlv k hk13.1).symm ▸ seats_le bw b0.2 b1.2 b2.2 b3.2 hk13
            case qd => ktr_room
            case qu => ktr_units
            clear N6 N7 F7 N8 F8 hn1 hn2
            intro D td1 td2 ed o1' o2' tlq h8 tk8 F8 N8 SD1 SD2 lq lD
            (try dsimp only)
            iterate 1 (first | walk1 | (dsimp only; walk1))
            k_dflt (refine' seat_append (S := fun k => seatsI way v0 v1 v2 v3 k) (i := i) (os₀ := s₁.os) F8 N8 hz9 ht hw hor SD1 SD2 lq lD hD (by rw [hk]) hi hoff oII oIa oIt tasl (Nat.ne_of_lt l1f) (Nat.ne_of_lt l1e) (Nat.ne_of_lt l1c) (Nat.ne_of_lt l1a) (Nat.ne_of_lt l1b) (Nat.ne_of_lt l1d) (Nat.ne_of_lt l1g) ?_)
            clear N8 F8 SD1 SD2 lq lD
            intro h10 F10 hEnd
            iterate 2 (first | walk1 | (dsimp only; walk1))
            exact hEnd _ _ _ hGs
          case done =>
            intro vs es o1 o2 oz cz' tl' h' gs dr tk' hGs hoz S1 S2 hD hoff F9 N9
            clear F2 N2 hr
            iterate 1 (first | walk1 | (dsimp only; walk1))
            exact inv4_of hGs F9 N9 S1 S2 hD (by with_reducible assumption) hoff hw ht hoz b0 b1 b2 b3 bw bl ovl lta l1b
        · clear h tk u vl ua la nsU nsL ntU ntL v0 v1 v2 v3 way late vv tl tw e ot os ow ct cz ta vg vt va F N WU WL hlv hvi hw ht hz b0 b1 b2 b3 bw bl ovl lta hG hvl
          refine Inv4.all ?_
          intro h gs dr tk u vl sl v0 v1 v2 v3 way late vv vs tl tw e es o1 o2 oz ot ow ct cz ta xl xu vg vt va hG F N S1 S2 hD hvi hw ht hz b0 b1 b2 b3 bw bl hoff hoff2
          dsimp only [List.drop]
          refine @cut _ _ _ _ _ _ _ 2 (Inv5 w.params (ghostOf s₁.heap [(130, 126), (123, 119), (73, 69)]) s₁.heap.objs.size s₁) ?_ ?_
          · dsimp only [List.take]
            iterate 6 (first | walk1 | (dsimp only; walk1))
            rename (@LT.lt Nat _ _ _) => lxd9
            rename (∀ p : Addr × PySem.Obj, _ → _ < _) => lx9
            iterate 17 (first | walk1 | (dsimp only; walk1))
            rename (And _ (And _ (And _ (And _ (And _ (And _ (And _ (And _ (And _ (And _ (AllLt _ _))))))))))) => l1
            exact inv5_of (by k_asm) (by k_asm) lx9 lxd9 l1.1 hG S1 S2 hD hvi hw ht hz b0 b1 b2 b3 bw bl hoff hoff2
          · clear h gs dr tk u vl sl v0 v1 v2 v3 way late vv vs tl tw e es o1 o2 oz ot ow ct cz ta xl xu vg vt va hG F N S1 S2 hD hvi hw ht hz b0 b1 b2 b3 bw bl hoff hoff2
            refine Inv5.all ?_
            intro h gs dr tk u x dx hl vl sl v0 v1 v2 v3 way late vv vs tl tw tx1 tx2 c0 c1 c2 c3 e es o1 o2 oz ot ow ct cz ta cs xl xu vg vt va hG F hcs N S1 S2 hD hvi hw ht hz b0 b1 b2 b3 bw bl hoff hoff2 lcs lxd lxh
            dsimp only [List.drop]
            have mvl : (vl, listOf vv.toArray e) ∈ cs := by rw [hcs]; simp
            have msl : (sl, listOf vs.toArray es) ∈ cs := by rw [hcs]; simp
            have mow : (s₁.heap.objs.size + 1, ow) ∈ cs := by rw [hcs]; simp
            obtain ⟨a0, ta0, ta1, e0, hv0, ma0⟩ := seats_get hD (k := 0) (by decide)
            replace ma0 : (a0, tupO [.int (seatsI way v0 v1 v2 v3 1) ta0, .int 0 ta1] e0) ∈ cs := by rw [hcs]; simp only [List.mem_cons]; simp only [show ((1 : Int) + ((0 : Nat) : Int)) = 1 from rfl] at ma0; simp only [ma0, or_true]
            refine @cut _ _ _ _ _ _ _ 1 (Inv6 w.params (ghostOf s₁.heap [(130, 126), (123, 119), (73, 69)]) s₁.heap.objs.size s₁) ?_ ?_
            · dsimp only [List.take]
              iterate 1 (first | walk1 | (dsimp only; walk1))
              refine my_For ?_
              iterate 8 (first | walk1 | (dsimp only; walk1))
              k_dflt (refine' item_litK (News.isList N (List.Mem.tail _ (List.Mem.tail _ (List.Mem.tail _ msl)))) (by decide) (by decide) hv0 ?_ (by with_unfolding_all rfl))
              iterate 1 (first | walk1 | (dsimp only; walk1))
              k_dflt (refine' tup_at N (List.Mem.tail _ (List.Mem.tail _ (List.Mem.tail _ ma0))) (by decide) (by decide) (by rfl) (by rfl) ?_ (by with_unfolding_all rfl))
              iterate 2 (first | walk1 | (dsimp only; walk1))
              rename IsRange _ _ _ _ _ _ _ _ => hr
              rename Fr _ _ _ _ => F2
              rename News _ _ _ _ => N2
              have hS1 : 0 ≤ seatsI way v0 v1 v2 v3 1 ∧ seatsI way v0 v1 v2 v3 1 < 128 := ⟨seats_nonneg bw b0.1 b1.1 b2.1 b3.1 (by decide), by have := seats_le bw b0.2 b1.2 b2.2 b3.2 (k := 1) ⟨by decide, by decide⟩; lia⟩
              refine' bench_loop (way := way) (v0 := v0) (v1 := v1) (v2 := v2) (v3 := v3) (by rfl) (by rfl) hr hS1 F2 N2 hG (greedy_nil bw b0 b1 b2 b3) (fun _ => rfl) (by passes_own) ?turn ?done
              case turn =>
                clear F2 N2 hr hcs S1 S2 hoff hoff2 hD
                intro i k t bs vb n hv eh tlp u' h' gs' dr' tk' I oI hi hGs hDb hih hlen hb4 hg hoffp oII oIc oIt F9 N9
                iterate 8 (first | walk1 | (dsimp only; walk1))
                refine my_For ?_
                iterate 9 (first | walk1 | (dsimp only; walk1))
                rename Fr _ _ _ _ => F3
                rename News _ _ _ _ => N3
                dsimp only at N3
                refine' one_loop (way := way) (v0 := v0) (v1 := v1) (v2 := v2) (v3 := v3) (bs := bs) ?oL ?oh F3 N3 ?om ?ob (fun _ => rfl) ?oE ?turn2 ?done2
                case oL => rfl
                case oh => rfl
                case om => exact List.Mem.head _
                case ob => rfl
                case oE => passes_own
                case turn2 =>
                  clear F3 N3
                  intro i2 t2 b tb u2 h2 tk2 I2 oI2 hi2 hbest oI3 F9 N9
                  have hb4' := hbest.1
                  have pv1 := vote_pos b0 b1 b2 b3 (i := i2 + 1) (by lia)
                  have pv2 := vote_pos b0 b1 b2 b3 hb4'
                  have pc1 := cnt_le bs (i2 + 1)
                  have pc2 := cnt_le bs b
                  have pc3 := cnt_nonneg bs (i2 + 1)
                  have pc4 := cnt_nonneg bs b
                  have pl : bs.length < 128 := by lia
                  rename IntsAre vv _ => hvi
                  iterate 10 (first | walk1 | (dsimp only; walk1))
                  rename Fr _ _ _ _ => F4
                  rename News _ _ _ _ => N4
                  dsimp only [List.cons_append] at N4
                  k_dflt (refine' item_lstM N4 (.tail _ (.tail _ (.tail _ (.tail _ (List.mem_append_left _ (List.mem_append_left _ (List.mem_append_left _ mvl))))))) hvi (by lia) (by simp only [List.length_cons, List.length_nil]; lia) (by exact Nat.le_of_ble_eq_true rfl) (vote_at (j := i2 + 1) (by lia)) ?_ (by with_unfolding_all rfl) (by intro _; with_unfolding_all rfl))
                  intro t41
                  iterate 6 (first | walk1 | (dsimp only; walk1))
                  k_dflt (refine' item_lstM N4 (.tail _ (.tail _ (.tail _ (.head _)))) hih (by lia) (by simp only [List.length_cons, List.length_nil]; lia) (by exact Nat.le_of_ble_eq_true rfl) (held_at (j := b) rfl hb4') ?_ (by with_unfolding_all rfl) (by intro _; with_unfolding_all rfl))
                  intro t42
                  iterate 1 (first | walk1 | (dsimp only; walk1))
                  k_dflt (refine' nameX_C N4 ?wc (.tail _ (.tail _ (.tail _ (.tail _ (List.mem_append_left _ (List.mem_append_left _ (List.mem_append_left _ mow))))))) hw ?_ ?wa ?wb)
                  case wa => rfl
                  case wb => rfl
                  case wc => rfl
                  iterate 7 (first | walk1 | (dsimp only; walk1))
                  k_dflt (refine' item_lstM N4 (.tail _ (.tail _ (.tail _ (.tail _ (List.mem_append_left _ (List.mem_append_left _ (List.mem_append_left _ mvl))))))) hvi (by lia) (by simp only [List.length_cons, List.length_nil]; lia) (by exact Nat.le_of_ble_eq_true rfl) (vote_at (j := b) rfl) ?_ (by with_unfolding_all rfl) (by intro _; with_unfolding_all rfl))
                  intro t43
                  iterate 6 (first | walk1 | (dsimp only; walk1))
                  k_dflt (refine' item_lstM N4 (.tail _ (.tail _ (.tail _ (.head _)))) hih (by lia) (by simp only [List.length_cons, List.length_nil]; lia) (by exact Nat.le_of_ble_eq_true rfl) (held_at (j := i2 + 1) (by lia) (by lia)) ?_ (by with_unfolding_all rfl) (by intro _; with_unfolding_all rfl))
                  intro t44
                  iterate 1 (first | walk1 | (dsimp only; walk1))
                  k_dflt (refine' nameX_C N4 ?wc2 (.tail _ (.tail _ (.tail _ (.tail _ (List.mem_append_left _ (List.mem_append_left _ (List.mem_append_left _ mow))))))) hw ?_ ?wa2 ?wb2)
                  case wa2 => rfl
                  case wb2 => rfl
                  case wc2 => rfl
                  iterate 6 (first | walk1 | (dsimp only; walk1))
                  by_cases hc : voteI v0 v1 v2 v3 b * (2 * cntI bs (i2 + 1) + way) - late < voteI v0 v1 v2 v3 (i2 + 1) * (2 * cntI bs b + way)
                  · refine ite_pos (decide_eq_true hc) ?_
                    have hB := best_yes b0 b1 b2 b3 bl (show i2 + 1 < 4 by lia) hbest hc
                    clear hc hbest pv1 pv2 pc1 pc2 pc3 pc4
                    iterate 6 (first | walk1 | (dsimp only; walk1))
                    rename Fr _ _ _ _ => F5
                    rename News _ _ _ _ => N5
                    refine one_end (b := i2 + 1) F5 N5 (by rfl) oI3 ?_ (by rfl) hB
                    intro z hz
                    obtain ⟨z1, z2⟩ := st2_ne hz
                    simp only [z1, z2, if_false, hz, Bool.false_eq_true]
                  · refine ite_neg (fun e => hc (of_decide_eq_true e)) ?_
                    have hB := best_no bl hbest hc
                    clear hc hbest pv1 pv2 pc1 pc2 pc3 pc4
                    iterate 2 (first | walk1 | (dsimp only; walk1))
                    refine one_end (b := b) F4 N4 (by rfl) oI3 ?_ (by rfl) hB
                    intro z hz
                    obtain ⟨z1, z2⟩ := st2_ne hz
                    simp only [z1, z2, if_false, hz, Bool.false_eq_true]
                case done2 =>
                  clear F3 N3
                  intro b tb u2 h2 tk2 hbest F9 N9
                  have hb4' := hbest.1
                  iterate 6 (first | walk1 | (dsimp only; walk1))
                  iterate 1 (first | walk1 | (dsimp only; walk1))
                  have hallh : ∀ p ∈ (x, accObj 99 dx vb n) :: (dx, accD w.params tx1 tx2) :: (cs ++ tlp ++ [(I, oI)]), p.1 ≠ hl :=
                    List.forall_mem_cons.mpr ⟨Nat.ne_of_lt lxh, List.forall_mem_cons.mpr ⟨Nat.ne_of_lt (Nat.lt_trans lxd lxh), all_app (all_app (fun p hp => Nat.ne_of_lt (Nat.lt_trans (lcs p hp) (Nat.lt_trans lxd lxh))) (fun p hp => hoffp.1 p hp _ (by simp))) (List.forall_mem_cons.mpr ⟨oII _ (by simp), List.forall_mem_nil _⟩)⟩⟩
                  have NH : News (ghostOf s₁.heap [(130, 126), (123, 119), (73, 69)]) s₁.heap.objs.size h2 ((hl, listOf hv.toArray eh) :: (x, accObj 99 dx vb n) :: (dx, accD w.params tx1 tx2) :: (cs ++ tlp ++ [(I, oI)])) := fun p hp => N9 p (by
                    refine sub_of hp ?_
                    walk_at "sub")
                  clear N9
                  k_dflt (refine' ksa_set F9 NH (Upd.head hallh) hih (by lia) (by simp only [List.length_cons, List.length_nil]; lia) (by lia) ?_)
                  intro h3 F3 N3 hi3 hl3 hs3
                  clear hallh NH F9 hl3 hs3
                  replace hi3 := held_set hb4' hi3
                  have hEx : ∃ hv' : List PySem.Value, News (ghostOf s₁.heap [(130, 126), (123, 119), (73, 69)]) s₁.heap.objs.size h3 ((hl, listOf hv'.toArray eh) :: (x, accObj 99 dx vb n) :: (dx, accD w.params tx1 tx2) :: (cs ++ tlp ++ [(I, oI)])) ∧ IntsAre hv' [cntI (bs ++ [b]) 0, cntI (bs ++ [b]) 1, cntI (bs ++ [b]) 2, cntI (bs ++ [b]) 3] := ⟨_, N3, hi3⟩
                  clear N3 hi3
                  obtain ⟨hv', N3, hi3⟩ := hEx
                  iterate 4 (first | walk1 | (dsimp only; walk1))
                  k_dflt (refine' acc_push F3 ?pX N3 (.tail _ (.head _)) (.tail _ (.tail _ (.head _))) ?_)
                  case pX => k_asm
                  iterate 7 (first | walk1 | (dsimp only; walk1))
                  k_dflt (refine' abcd_at (b := b) rfl hb4' ?_ (by with_unfolding_all rfl))
                  iterate 2 (first | walk1 | (dsimp only; walk1))
                  have hallx : ∀ p ∈ (hl, listOf hv'.toArray eh) :: (dx, accD w.params tx1 tx2) :: (cs ++ tlp ++ [(I, oI)]), p.1 ≠ x :=
                    List.forall_mem_cons.mpr ⟨Nat.ne_of_gt lxh, List.forall_mem_cons.mpr ⟨Nat.ne_of_lt lxd, all_app (all_app (fun p hp => Nat.ne_of_lt (Nat.lt_trans (lcs p hp) lxd)) (fun p hp => hoffp.1 p hp _ (by simp))) (List.forall_mem_cons.mpr ⟨oII _ (by simp), List.forall_mem_nil _⟩)⟩⟩
                  have NP : News (ghostOf s₁.heap [(130, 126), (123, 119), (73, 69)]) s₁.heap.objs.size h3 ((x, accObj 99 dx vb n) :: (hl, listOf hv'.toArray eh) :: (dx, accD w.params tx1 tx2) :: (cs ++ tlp ++ [(I, oI)])) := fun p hp => N3 p (by
                    refine sub_of hp ?_
                    walk_at "sub")
                  k_dflt (refine' push_spec ?yB F3 ?yX NP ?yT ?yk (.tail _ (.head _)) hallx ?yz ?yd ?yu ?_)
                  case yB => k_asm
                  case yX => k_asm
                  case yT => k_asm
                  case yk => rfl
                  case yz => (have e1 := hDb.length; have e2 := seats28 bw b0.2 b1.2 b2.2 b3.2; simp only [lets, List.length_map] at e1; lia)
                  case yd => ktr_room
                  case yu => ktr_units
                  intro D9 tf9 tt9 e9 h9 tk9 F9 N9 la9 lb9
                  iterate 1 (first | walk1 | (dsimp only; walk1))
                  refine bench_end (i := i) (b := b) (bs := bs) b0 b1 b2 b3 hGs F9 N9 la9 lb9 ?_ hDb hi3 hlen hb4 hg hoffp oII oIc oIt hbest
                  intro z hz
                  obtain ⟨z1, z2, z3, z4⟩ := st3_ne hz
                  simp only [z1, z2, z3, z4, if_false, hz, Bool.false_eq_true]
              case done =>
                clear F2 N2 hr
                intro bs vb n hv eh tlp u' h' gs' dr' tk' hGs hDb hlen hb4 hg hoffp F9 N9
                iterate 1 (first | walk1 | (dsimp only; walk1))
                rename IntsAre vv _ => hvi
                exact inv6_of hGs F9 (by rfl) (by rfl) (by rfl) hcs N9 S1 S2 hD hDb hvi hw ht hz b0 b1 b2 b3 bw hlen hb4 hg hoffp hoff hoff2 lcs lxd
            · clear h gs dr tk u x dx hl vl sl v0 v1 v2 v3 way late vv vs tl tw tx1 tx2 c0 c1 c2 c3 e es o1 o2 oz ot ow ct cz ta cs xl xu vg vt va hG F hcs N S1 S2 hD hvi hw ht hz b0 b1 b2 b3 bw bl hoff hoff2 lcs lxd lxh mvl msl mow a0 ta0 ta1 e0 hv0 ma0
              refine Inv6.all ?_
              intro h gs dr tk u x dx vl sl v0 v1 v2 v3 way vv vs vb tw tx1 tx2 e es n p1 p2 oz ot ow ct cz ks bs hG F N m119 m126 msl mvl mow hD hDb hvi hw ht hz b0 b1 b2 b3 bw hlen hb4 hg hks hne
              dsimp only [List.drop]
              refine @cut _ _ _ _ _ _ _ 2 (Inv7 w.params (ghostOf s₁.heap [(130, 126), (123, 119), (73, 69)]) s₁.heap.objs.size s₁) ?_ ?_
              · dsimp only [List.take]
                iterate 8 (first | walk1 | (dsimp only; walk1))
                have NS : News (ghostOf s₁.heap [(130, 126), (123, 119), (73, 69)]) s₁.heap.objs.size h ((69, tabObj #[]) :: (x, accObj 99 dx vb n) :: (dx, accD w.params tx1 tx2) :: (s₁.heap.objs.size + 1 + 1, oz) :: (s₁.heap.objs.size + 1 + 1 + 1, ot) :: ks) := fun p hp => N p (by
                  refine sub_of hp ?_
                  walk_at "sub")
                k_dflt (refine' str_call (cps := lets bs) ?zB F ?zX NS ?zT ?zk ?zC (off69 hks hne) (.inl rfl) hG (.head _) (.tail _ (.head _)) ?zD ?zz lets_one ?zd ?zu ?_)
                case zB => k_asm
                case zX => k_asm
                case zT => k_asm
                case zk => rfl
                case zC => exact (ghost_code hT9).2.2.1
                case zD => exact hDb.mono fun p hp => .tail _ (.tail _ (.tail _ (.tail _ hp)))
                case zz => (rw [lets_len]; have e2 := seats28 bw b0.2 b1.2 b2.2 b3.2; lia)
                case zd => ktr_room
                case zu => ktr_units
                clear NS N F
                intro tm o3 h7 tk7 gs7 dr7 hG7 F7 N7 hT7
                iterate 8 (first | walk1 | (dsimp only; walk1))
                rename Fr _ _ _ _ => F8
                rename News _ _ _ _ => N8
                rename (And _ (And _ (And _ (And _ (And _ (AllLt _ _)))))) => l1
                exact inv7_of hG7 F8 N8 ⟨l1.1, l1.2.1, l1.2.2.1, l1.2.2.2.1, l1.2.2.2.2.1⟩ hT7 m119 m126 msl mvl mow hD hDb hvi hw ht hz b0 b1 b2 b3 bw hlen hb4 hg hks hne
              · clear h gs dr tk u x dx vl sl v0 v1 v2 v3 way vv vs vb tw tx1 tx2 e es n p1 p2 oz ot ow ct cz ks bs hG F N m119 m126 msl mvl mow hD hDb hvi hw ht hz b0 b1 b2 b3 bw hlen hb4 hg hks hne
                refine Inv7.all ?_
                intro h gs dr tk u x dx vl sl ol v0 v1 v2 v3 way vv vs vb tw tx1 tx2 tm e es n p1 p2 o3 oz ot ow ct cz ks bs hG F N h3 m119 m126 msl mvl mow hD hDb hvi hw ht hz b0 b1 b2 b3 bw hlen hb4 hg hks hne hol
                dsimp only [List.drop]
                have hS1 := seats_nonneg bw b0.1 b1.1 b2.1 b3.1 (Int.le_refl 1)
                have hS28 := seats28 bw b0.2 b1.2 b2.2 b3.2
                have hvb : vb.length = bs.length := (by have := hDb.length; rw [List.length_map, lets_len] at this; exact this)
                have hSv : seatsI way v0 v1 v2 v3 1 = vb.length := by lia
                refine @cut _ _ _ _ _ _ _ 1 (Inv8 w.params (ghostOf s₁.heap [(130, 126), (123, 119), (73, 69)]) s₁.heap.objs.size s₁) ?_ ?_
                · dsimp only [List.take]
                  iterate 1 (first | walk1 | (dsimp only; walk1))
                  refine my_For ?_
                  iterate 9 (first | walk1 | (dsimp only; walk1))
                  rename IsRange _ _ _ _ _ _ _ _ => hr
                  rename Fr _ _ _ _ => F2
                  rename News _ _ _ _ => N2
                  refine' last_loop (fun k => seatsI way v0 v1 v2 v3 k) ?lL ?lh hr F2 N2 hG h3 hz ht ?lm hSv hol (fun _ => rfl) ?lE ?turn ?done
                  case lL => rfl
                  case lh => rfl
                  case lm => rfl
                  case lE => passes_own
                  case turn =>
                    clear F2 N2 hr h3 hz ht hol
                    intro i k t κ n' eo ol o3 oz ot cz ct u' h' gs' dr' tk' I oI hi hk hGs h3 hz ht hκ hSκ hol hI hkI F9 N9
                    obtain ⟨a1, ta1, ta2, e1, hv1, ma1⟩ := seats_get hD hi
                    (try dsimp only at ma1 hSκ)
                    have hS0 := seats_nonneg bw b0.1 b1.1 b2.1 b3.1 (k := 1 + (i : Int)) (by lia)
                    have hallz : ∀ p ∈ (x, accObj 99 dx (vb.take κ) n') :: (dx, accD w.params tx1 tx2) :: (69, o3) :: (s₁.heap.objs.size + 1 + 1 + 1, ot) :: (ol, listOf (vb.drop κ).toArray eo) :: (ks ++ [(I, oI)]), p.1 ≠ s₁.heap.objs.size + 1 + 1 :=
                      List.forall_mem_cons.mpr ⟨hne.2.2.1, List.forall_mem_cons.mpr ⟨hne.2.2.2.2.2.1, List.forall_mem_cons.mpr ⟨hne.2.2.2.2.2.2.2.1, List.forall_mem_cons.mpr ⟨Nat.succ_ne_self _, List.forall_mem_cons.mpr ⟨hol.2.2.2.1, all_app (fun p hp => (hks p hp).2.2.2.1) (List.forall_mem_cons.mpr ⟨hI.2.2.2.1.symm, List.forall_mem_nil _⟩)⟩⟩⟩⟩⟩
                    have NZ : News (ghostOf s₁.heap [(130, 126), (123, 119), (73, 69)]) s₁.heap.objs.size h' ((s₁.heap.objs.size + 1 + 1, oz) :: (x, accObj 99 dx (vb.take κ) n') :: (dx, accD w.params tx1 tx2) :: (69, o3) :: (s₁.heap.objs.size + 1 + 1 + 1, ot) :: (ol, listOf (vb.drop κ).toArray eo) :: (ks ++ [(I, oI)])) := fun p hp => N9 p (by
                      refine sub_of hp ?_
                      walk_at "sub")
                    clear N9
                    iterate 1 (first | walk1 | (dsimp only; walk1))
                    k_dflt (refine' storeX_C F9 NZ rfl (UpdF.head hallz) hz ?_ rfl rfl)
                    clear hallz NZ F9
                    intro h1 oz1 F1 N1 hz1
                    clear hz
                    (try dsimp only at N1)
                    iterate 6 (first | walk1 | (dsimp only; walk1))
                    k_dflt (refine' acc_popf F1 ?pX N1 (.tail _ (.head _)) (.tail _ (.tail _ (.head _))) ?_)
                    case pX => k_asm
                    iterate 6 (first | walk1 | (dsimp only; walk1))
                    k_dflt (refine' nameX_C N1 ?wc (.head _) hz1 ?_ ?wa ?wb)
                    case wa => rfl
                    case wb => rfl
                    case wc => rfl
                    iterate 2 (first | walk1 | (dsimp only; walk1))
                    k_dflt (refine' item_litK (News.isList N1 (.tail _ (.tail _ (.tail _ (.tail _ (.tail _ (.tail _ (List.mem_append_left _ msl)))))))) (by lia) (by lia) (by rw [show (k - 1).toNat = i by lia]; exact hv1) ?_ (by with_unfolding_all rfl))
                    iterate 1 (first | walk1 | (dsimp only; walk1))
                    k_dflt (refine' tup_at N1 (.tail _ (.tail _ (.tail _ (.tail _ (.tail _ (.tail _ (List.mem_append_left _ ma1))))))) (by decide) (by decide) (by rfl) (by rfl) ?_ (by with_unfolding_all rfl))
                    iterate 2 (first | walk1 | (dsimp only; walk1))
                    have hallx : ∀ p ∈ (s₁.heap.objs.size + 1 + 1, oz1) :: (dx, accD w.params tx1 tx2) :: (69, o3) :: (s₁.heap.objs.size + 1 + 1 + 1, ot) :: (ol, listOf (vb.drop κ).toArray eo) :: (ks ++ [(I, oI)]), p.1 ≠ x :=
                      List.forall_mem_cons.mpr ⟨hne.2.2.1.symm, List.forall_mem_cons.mpr ⟨hne.1, List.forall_mem_cons.mpr ⟨hne.2.1.symm, List.forall_mem_cons.mpr ⟨hne.2.2.2.1.symm, List.forall_mem_cons.mpr ⟨hol.1, all_app (fun p hp => (hks p hp).1) (List.forall_mem_cons.mpr ⟨hI.1.symm, List.forall_mem_nil _⟩)⟩⟩⟩⟩⟩
                    have NP : News (ghostOf s₁.heap [(130, 126), (123, 119), (73, 69)]) s₁.heap.objs.size h1 ((x, accObj 99 dx (vb.take κ) n') :: (s₁.heap.objs.size + 1 + 1, oz1) :: (dx, accD w.params tx1 tx2) :: (69, o3) :: (s₁.heap.objs.size + 1 + 1 + 1, ot) :: (ol, listOf (vb.drop κ).toArray eo) :: (ks ++ [(I, oI)])) := fun p hp => N1 p (by
                      refine sub_of hp ?_
                      walk_at "sub")
                    k_dflt (refine' pop_spec ?yB F1 ?yX NP ?yT ?yk (.tail _ (.head _)) hallx ?yz ?yi ?yd ?yu ?_)
                    case yB => k_asm
                    case yX => k_asm
                    case yT => k_asm
                    case yk => rfl
                    case yz => (rw [List.length_take]; lia)
                    case yi => (rw [List.length_take]; lia)
                    case yd => ktr_room
                    case yu => ktr_units
                    clear NP N1 F1 hallx
                    intro D1 e9 n9 h2 tk2 F2 N2 l2 l2x
                    iterate 1 (first | walk1 | (dsimp only; walk1))
                    generalize hσ : (seatsI way v0 v1 v2 v3 (1 + (i : Int))).toNat = σ at N2
                    have hσκ : σ ≤ κ := by lia
                    k_dflt (refine' add_anyM F2 N2 (.tail _ (.head _)) (.tail _ (.tail _ (.tail _ (.tail _ (.tail _ (.tail _ (.head _))))))) ?az ?_)
                    case az => (rw [List.length_drop, List.length_take, List.length_drop]; lia)
                    intro D2 h3' F3 N3 l3
                    have hD2 : (D2 ≠ x ∧ D2 ≠ dx ∧ D2 ≠ 69 ∧ D2 ≠ s₁.heap.objs.size + 1 + 1 ∧ D2 ≠ s₁.heap.objs.size + 1 + 1 + 1) ∧ D2 ≠ I := ⟨⟨Nat.ne_of_gt (l3 (x, _) (.head _)), Nat.ne_of_gt (l3 (dx, _) (.tail _ (.tail _ (.tail _ (.head _))))), Nat.ne_of_gt (l3 (69, _) (.tail _ (.tail _ (.tail _ (.tail _ (.head _)))))), Nat.ne_of_gt (l3 (s₁.heap.objs.size + 1 + 1, _) (.tail _ (.tail _ (.head _)))), Nat.ne_of_gt (l3 (s₁.heap.objs.size + 1 + 1 + 1, _) (.tail _ (.tail _ (.tail _ (.tail _ (.tail _ (.head _)))))))⟩, Nat.ne_of_gt (l3 (I, oI) (.tail _ (.tail _ (.tail _ (.tail _ (.tail _ (.tail _ (.tail _ (List.mem_append_right _ (.head _))))))))))⟩
                    rw [pop_take hσκ, pop_drop hσκ] at N3
                    have N4 : News (ghostOf s₁.heap [(130, 126), (123, 119), (73, 69)]) s₁.heap.objs.size h3' ((69, o3) :: (x, accObj 99 dx (vb.take σ) n9) :: (dx, accD w.params tx1 tx2) :: (s₁.heap.objs.size + 1 + 1, oz1) :: (s₁.heap.objs.size + 1 + 1 + 1, ot) :: (D2, listOf (vb.drop σ).toArray 0) :: (ks ++ [(I, oI)])) := fun p hp => N3 p (by
                      refine sub_of hp ?_
                      walk_at "sub")
                    clear N3 N2 F2 l2 l3 l2x
                    iterate 10 (first | walk1 | (dsimp only; walk1))
                    rename Fr _ _ _ _ => F4
                    rename News _ _ _ _ => N5
                    k_dflt (refine' str_call (cps := lets (bs.take σ)) ?sB F4 ?sX N5 ?sT ?sk ?sC (off_x hks hne hD2.1 ⟨hI.1, hI.2.1, hI.2.2.1, hI.2.2.2.1, hI.2.2.2.2.1⟩).1 h3 hGs (.head _) (.tail _ (.head _)) ?sD ?sz lets_one ?sd ?su ?_)
                    case sB => k_asm
                    case sX => k_asm
                    case sT => k_asm
                    case sk => rfl
                    case sC => exact (ghost_code hT9).2.2.1
                    case sD => exact (piece_take hDb σ).mono fun p hp => .tail _ (.tail _ (.tail _ (.tail _ (.tail _ (List.mem_append_left _ hp)))))
                    case sz => (rw [lets_len, List.length_take]; lia)
                    case sd => ktr_room
                    case su => ktr_units
                    clear N5 F4
                    intro tt o4 h5 tk5 gs5 dr5 hG5 F5 N5 hT5
                    have hallt := (off_x (o1 := accObj 99 dx (vb.take σ) n9) (o2 := accD w.params tx1 tx2) (o3 := o4) (o4 := oz1) (oI := oI) (oD := listOf (vb.drop σ).toArray 0) hks hne hD2.1 ⟨hI.1, hI.2.1, hI.2.2.1, hI.2.2.2.1, hI.2.2.2.2.1⟩).2
                    have N6 : News (ghostOf s₁.heap [(130, 126), (123, 119), (73, 69)]) s₁.heap.objs.size h5 ((s₁.heap.objs.size + 1 + 1 + 1, ot) :: (x, accObj 99 dx (vb.take σ) n9) :: (dx, accD w.params tx1 tx2) :: (69, o4) :: (s₁.heap.objs.size + 1 + 1, oz1) :: (D2, listOf (vb.drop σ).toArray 0) :: (ks ++ [(I, oI)])) := fun p hp => N5 p (by
                      refine sub_of hp ?_
                      walk_at "sub")
                    clear N5
                    k_dflt (refine' storeX_C F5 N6 rfl (UpdF.head hallt) ht ?_ rfl rfl)
                    clear hallt N6 F5
                    intro h6 ot6 F6 N7 ht6
                    clear ht
                    (try dsimp only at N7)
                    iterate 1 (first | walk1 | (dsimp only; walk1))
                    k_dflt (refine LCg.Assign_ListComp_U (F₀ := F6) (by rfl) (by with_unfolding_all rfl) (by with_unfolding_all rfl) (by decide) (by rfl) (by decide) (by rfl) (by rfl) (by rfl) ?_)
                    iterate 1 (first | walk1 | (dsimp only; walk1))
                    k_dflt (refine LCg.CompSrc.ledger (by rfl) F6 N7 (.tail _ (.tail _ (.tail _ (.tail _ (.tail _ (.tail _ (List.mem_append_left _ mvl))))))) ?cz ?_)
                    case cz => kcf_size
                    intro g'
                    rename IntsAre vv _ => hvi
                    k_dflt (refine' kcf_list (fun vote => (2 * vote + (2 - way) * k).fdiv (2 * k)) hvi (fun kk tt' I' oI' C' oC' D' m' ys' hh' tk' E' hk' hC' hx' F' N' off' ne' hMark' => ?_) ?_)
                    · iterate 9 (first | walk1 | (dsimp only; walk1))
                      k_dflt (refine' kcf_cell N' ?wc (.tail _ (.tail _ (.tail _ (.tail _ (.tail _ (.tail _ (.tail _ (.tail _ (.tail _ (List.mem_append_left _ mow)))))))))) hw ?_ ?wk ?wx ?wb)
                      case wc => rfl
                      case wk => rfl
                      case wx => rfl
                      case wb => decide
                      iterate 1 (first | walk1 | (dsimp only; walk1))
                      k_dflt (refine' kcf_cell N' ?wc1 (.tail _ (.tail _ (.tail _ (.tail _ (.tail _ (.tail _ (.tail _ (.head _)))))))) hz1 ?_ ?wk1 ?wx1 ?wb1)
                      case wc1 => rfl
                      case wk1 => rfl
                      case wx1 => rfl
                      case wb1 => decide
                      iterate 4 (first | walk1 | (dsimp only; walk1))
                      k_dflt (refine' kcf_cell N' ?wc2 (.tail _ (.tail _ (.tail _ (.tail _ (.tail _ (.tail _ (.tail _ (.head _)))))))) hz1 ?_ ?wk2 ?wx2 ?wb2)
                      case wc2 => rfl
                      case wk2 => rfl
                      case wx2 => rfl
                      case wb2 => decide
                      iterate 2 (first | walk1 | (dsimp only; walk1))
                      exact LCg.CompEnd.intro F' N' _ (fun _ hp => hp) off' (.inr ⟨_, (.tail _ (.tail _ (.tail _ (.tail _ (.tail _ (.tail _ (List.mem_append_left _ mvl))))))), rfl, _, rfl⟩) (kcf_el rfl rfl rfl)
                    · show ∀ ys, _ → _
                      intro ys hys
                      show LCg.FinA _ _ _ _ _ _ _ _
                      intro D3 h7 tk7 F7 N8 o8
                      (try dsimp only)
                      iterate 4 (first | walk1 | (dsimp only; walk1))
                      k_dflt (refine' ListComp_T (Str.ofString "abcd") F7 (by with_unfolding_all rfl) (by decide) (by rfl) (by decide) (by rfl) ?_ (by intro _; rfl))
                      walk1
                      k_dflt (refine ⟨_, _, rfl, by rfl, F7, N8, abcd_ascii, abcd_size, fun g2 => rest_T (Str.ofString "abcd") (fun i => cntI (bs.take σ) i) ?cturn ?cfin⟩)
                      case cturn =>
                        clear F7 N8 o8
                        intro i2 c2 t2 I' oI' C' oC' D' m' ys' hh' tk' E' hc2 hC' hx' F' N' off' ne'
                        k_dflt (refine MethodCall_ ?_)
                        k_dflt (refine' kcf_cell N' ?uc (.tail _ (.tail _ (.tail _ (.tail _ (.head _))))) ht6 ?_ ?uk ?ux ?ub)
                        case uc => rfl
                        case uk => rfl
                        case ux => rfl
                        case ub => decide
                        iterate 6 (first | walk1 | (dsimp only; walk1))
                        obtain ⟨hi2, rfl⟩ := abcd_cp hc2
                        exact LCg.CompEnd.intro F' N' _ (fun _ hp => hp) off' trivial (kcf_el (count_text (fun b hb => hb4 b (List.mem_of_mem_take hb)) hi2).symm rfl rfl)
                      case cfin =>
                        clear F7 N8 o8
                        intro yc hyc
                        show LCg.FinE _ _ _ _ _ _ _
                        intro D4 h8 tk8 F8 N9 o9
                        (try dsimp only)
                        iterate 1 (first | walk1 | (dsimp only; walk1))
                        k_dflt (refine' ne_same N9 (.head _) (.tail _ (.head _)) (ints_dat (l := []) hyc) (ints_dat (l := []) hys) (fun _ h => nomatch h) (fun _ h => nomatch h) ?ned (ints_ok _) ?nu ?_)
                        case ned => exact congrArg (List.map Dat.int) (told_eq bw b0 b1 b2 b3 hb4 hlen hg (by lia) (by lia) (by rw [hk]; exact hσ))
                        case nu => ktr_units
                        iterate 4 (first | walk1 | (dsimp only; walk1))
                        iterate 4 (first | walk1 | (dsimp only; walk1))
                        k_dflt (refine' nameX_C N9 ?wc9 (.tail _ (.tail _ (.tail _ (.tail _ (.tail _ (.tail _ (.head _))))))) hz1 ?_ ?wa9 ?wb9)
                        case wa9 => rfl
                        case wb9 => rfl
                        case wc9 => rfl
                        iterate 2 (first | walk1 | (dsimp only; walk1))
                        k_dflt (refine' item_litK (News.isList N9 (.tail _ (.tail _ (.tail _ (.tail _ (.tail _ (.tail _ (.tail _ (.tail _ (List.mem_append_left _ msl)))))))))) (by lia) (by lia) (by rw [show (k - 1).toNat = i by lia]; exact hv1) ?_ (by with_unfolding_all rfl))
                        iterate 1 (first | walk1 | (dsimp only; walk1))
                        k_dflt (refine' tup_at N9 (.tail _ (.tail _ (.tail _ (.tail _ (.tail _ (.tail _ (.tail _ (.tail _ (List.mem_append_left _ ma1))))))))) (by decide) (by decide) (by rfl) (by rfl) ?_ (by with_unfolding_all rfl))
                        iterate 9 (first | walk1 | (dsimp only; walk1))
                        refine last_end (κ := σ) (D := D2) (n := n9) (e := 0) hG5 F8 N9 ?eN hT5 hz1 ht6 ?em ?eo ?ek ?eS hD2.1 hD2.2 ⟨hI.1, hI.2.1, hI.2.2.1, hI.2.2.2.1, hI.2.2.2.2.1⟩ hkI
                        case eN =>
                          intro p hp
                          refine sub_of hp ?_
                          walk_at "sub"
                        case em =>
                          intro z hz
                          obtain ⟨z1, z2⟩ := stL_ne hz
                          simp only [z1, z2, if_false, hz, Bool.false_eq_true]
                        case eo => rfl
                        case ek => lia
                        case eS =>
                          intro hi13
                          have e4 := seats_mono bw b0.1 b1.1 b2.1 b3.1 (k := 1 + (i : Int)) (j := 1 + ((i + 1 : Nat) : Int)) (by lia) (by lia)
                          lia
                  case done =>
                    clear F2 N2 hr h3 hz ht hol
                    intro κ n' eo ol o3 oz ot u' h' gs' dr' tk' hGs h3 hol F9 N9
                    iterate 1 (first | walk1 | (dsimp only; walk1))
                    exact inv8_of hGs F9 (by rfl) (by rfl) (by rfl) N9 h3 m119 m126 hDb (by lia) hks hne hol
                · clear h gs dr tk u x dx vl sl ol v0 v1 v2 v3 way vv vs vb tw tx1 tx2 tm e es n p1 p2 o3 oz ot ow ct cz ks bs hG F N h3 m119 m126 msl mvl mow hD hDb hvi hw ht hz b0 b1 b2 b3 bw hlen hb4 hg hks hne hol hS1 hS28 hvb hSv
                  refine Inv8.all ?_
                  intro h gs dr tk u x dx ol vb tx1 tx2 tm κ n eo p1 p2 o3 oz ot ks bs hG F N h3 m119 m126 hDb hl28 hks hne hol
                  dsimp only [List.drop]
                  have hvb : vb.length = bs.length := (by have := hDb.length; rw [List.length_map, lets_len] at this; exact this)
                  iterate 4 (first | walk1 | (dsimp only; walk1))
                  k_dflt (refine' acc_reset F ?pX N (.head _) (.tail _ (.head _)) ?_)
                  case pX => k_asm
                  iterate 5 (first | walk1 | (dsimp only; walk1))
                  k_dflt (refine' acc_popf F ?pX2 N (.head _) (.tail _ (.head _)) ?_)
                  case pX2 => k_asm
                  iterate 1 (first | walk1 | (dsimp only; walk1))
                  have hallx : ∀ p ∈ (dx, accD w.params tx1 tx2) :: (69, o3) :: (s₁.heap.objs.size + 1 + 1, oz) :: (s₁.heap.objs.size + 1 + 1 + 1, ot) :: (ol, listOf (vb.drop κ).toArray eo) :: ks, p.1 ≠ x :=
                    List.forall_mem_cons.mpr ⟨hne.1, List.forall_mem_cons.mpr ⟨hne.2.1.symm, List.forall_mem_cons.mpr ⟨hne.2.2.1.symm, List.forall_mem_cons.mpr ⟨hne.2.2.2.1.symm, List.forall_mem_cons.mpr ⟨hol.1, fun p hp => (hks p hp).1⟩⟩⟩⟩⟩
                  have halld : ∀ p ∈ (69, o3) :: (s₁.heap.objs.size + 1 + 1, oz) :: (s₁.heap.objs.size + 1 + 1 + 1, ot) :: (ol, listOf (vb.drop κ).toArray eo) :: ks, p.1 ≠ dx :=
                    List.forall_mem_cons.mpr ⟨hne.2.2.2.2.1.symm, List.forall_mem_cons.mpr ⟨hne.2.2.2.2.2.1.symm, List.forall_mem_cons.mpr ⟨hne.2.2.2.2.2.2.1.symm, List.forall_mem_cons.mpr ⟨hol.2.1, fun p hp => (hks p hp).2.1⟩⟩⟩⟩
                  k_dflt (refine' pop0_spec ?yB F ?yX N ?yT ?yk (.head _) hallx ?yz ?yd ?yu ?_)
                  case yB => k_asm
                  case yX => k_asm
                  case yT => k_asm
                  case yk => rfl
                  case yz => (rw [List.length_take]; lia)
                  case yd => ktr_room
                  case yu => ktr_units
                  clear N F
                  intro D1 e9 n9 h2 tk2 F2 N2 l2 l2x
                  iterate 1 (first | walk1 | (dsimp only; walk1))
                  k_dflt (refine' add_anyM F2 N2 (.tail _ (.head _)) (.tail _ (.tail _ (.tail _ (.tail _ (.tail _ (.tail _ (.head _))))))) ?az ?_)
                  case az => (rw [List.length_drop, List.length_take, List.length_drop]; lia)
                  intro D2 h3' F3 N3 l3
                  have hx2 : D2 ≠ x ∧ D2 ≠ dx := ⟨Nat.ne_of_gt (l3 (x, _) (.head _)), Nat.ne_of_gt (l3 (dx, _) (.tail _ (.tail _ (.head _))))⟩
                  rw [List.drop_zero, List.take_zero, List.take_append_drop] at N3
                  iterate 2 (first | walk1 | (dsimp only; walk1))
                  have N4 : News (ghostOf s₁.heap [(130, 126), (123, 119), (73, 69)]) s₁.heap.objs.size h3' ((x, accObj 99 dx [] n9) :: (dx, accD w.params tx1 tx2) :: (D2, listOf vb.toArray 0) :: (69, o3) :: (s₁.heap.objs.size + 1 + 1, oz) :: (s₁.heap.objs.size + 1 + 1 + 1, ot) :: (ol, listOf (vb.drop κ).toArray eo) :: ks) := fun p hp => N3 p (by
                    refine sub_of hp ?_
                    walk_at "sub")
                  clear N3 N2 F2 l2 l2x l3
                  k_dflt (refine' reset_spec ?rB F3 ?rX N4 ?rT ?rk (.head _) hx2.1 (fun e => hne.1 e.symm) (List.forall_mem_cons.mpr ⟨hx2.1, (List.forall_mem_cons.mp hallx).2⟩) (List.forall_mem_cons.mpr ⟨hx2.2, halld⟩) ?rz ?rw ?rd ?ru ?_)
                  case rB => k_asm
                  case rX => k_asm
                  case rT => k_asm
                  case rk => rfl
                  case rz => exact Nat.zero_le _
                  case rw => lia
                  case rd => ktr_room
                  case ru => ktr_units
                  clear N4 F3
                  intro n5 tx3 tx4 h5 tk5 F5 N5
                  iterate 9 (first | walk1 | (dsimp only; walk1))
                  have N6 : News (ghostOf s₁.heap [(130, 126), (123, 119), (73, 69)]) s₁.heap.objs.size h5 ((69, o3) :: (x, accObj 99 dx vb n5) :: (dx, accD w.params tx3 tx4) :: (s₁.heap.objs.size + 1 + 1, oz) :: (s₁.heap.objs.size + 1 + 1 + 1, ot) :: ks) := fun p hp => N5 p (by
                    refine sub_of hp ?_
                    walk_at "sub")
                  k_dflt (refine' str_call (cps := lets bs) ?zB F5 ?zX N6 ?zT ?zk ?zC (off69 hks hne) h3 hG (.head _) (.tail _ (.head _)) ?zD ?zz lets_one ?zd ?zu ?_)
                  case zB => k_asm
                  case zX => k_asm
                  case zT => k_asm
                  case zk => rfl
                  case zC => exact (ghost_code hT9).2.2.1
                  case zD => exact hDb.mono fun p hp => .tail _ (.tail _ (.tail _ (.tail _ hp)))
                  case zz => (rw [lets_len]; lia)
                  case zd => ktr_room
                  case zu => ktr_units
                  clear N6 N5 F5
                  intro tm7 o7 h7 tk7 gs7 dr7 hG7 F7 N7 hT7
                  iterate 3 (first | walk1 | (dsimp only; walk1))
                  · have eB : (PySem.Txt.join (Str.ofString "") (List.map pieceT (lets bs)) == textB bs) = true := beq_self_eq_true (textB bs)
                    rw [eB]
                    refine goodN_bool F7 hG7 ?gn ?gp rfl
                    case gn => exact fun _ => rfl
                    case gp =>
                      clear F7 N7
                      (try dsimp only)
                      kernel_rfl
                  · obtain ⟨p3, rfl⟩ := hT7.tab
                    exact ⟨GrownAt.of N7 (.tail _ (.tail _ (.tail _ (.tail _ (.tail _ m126))))), GrownAt.of N7 (.tail _ (.tail _ (.tail _ (.tail _ (.tail _ m119))))), GrownAt.of N7 (.head _), trivial⟩)
end
end Mine
theorem PySem.Challenge.cw_sr0071_01_holds : PySem.Challenge.rw_sr0071_01.Holds :=
  Mine.law_holds
