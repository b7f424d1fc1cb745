import PyProof.Rows.All
import Wide.All
import OpenK.AllK
import Wide.FinOn
import Lean
import PySem.Challenge.RW_ji0057_01
open PySem PySem.W PyProof.Rows PyProof.V PySem.Spec PySem.Calls
set_option Elab.async false
set_option maxRecDepth 100000
namespace Mine
set_option maxHeartbeats 8000000 in
open_top hd for PySem.Challenge.rw_ji0057_01
section

abbrev PG : Program := PySem.Challenge.rw_ji0057_01.row.toRowW.prog

/-- the clock's answer: a call of the law's lambda -/
def ClockSpec (w : World) (p : Program) (loose : List Str) (mean : ExcName → Option Value) (mg mb : Str → Option Value) (f cell nl cq : Addr) (fo co oq : Obj) : Prop :=
  ∀ (now : Int) (tn : Tok) (news : List (Addr × Obj)) (pos : Pos)
    (dp un : Nat) (gd : Option (List Code)) (cn : Str) (cs : Scope) (a : Addr) (ccd : Value) (cl : List (Str × Addr)) (outer : List Env) (A₀ : Around) (base h₀ : Heap) (L : Addr) (m : Str → Option Value) (s : Shared) (Q E : Value → Shared → Prop),
    (f, fo) ∈ news → (cell, co) ∈ news → (nl, listOf #[.int now tn] 0) ∈ news → (cq, oq) ∈ news →
    Below A₀ base outer h₀ → Fr h₀ L s.heap m → (Mine.hd.heap_39 w.params).In h₀ → News h₀ L s.heap news → Top p loose mean mg mb h₀ → cs.kind = .function →
    dp + 2 < recursionLimit → un + 30 < cLine →
    (∀ t h' tk', Fr h₀ L h' m → News h₀ L h' news → Q (.int now t) { s with heap := h', toks := tk' }) →
    wpAny (model PG w) (ktrTop dp un gd cn cs L a ccd cl outer) (callWith pos (.ref f) [] (backTo pos (starEach [] (envX cn cs L a ccd cl))) []) Q E s

theorem clock_use {w : World} {p : Program} {loose : List Str} {mean : ExcName → Option Value} {mg mb : Str → Option Value} {f cell nl cq : Addr} {fo co oq : Obj} (hC : ClockSpec w p loose mean mg mb f cell nl cq fo co oq)
    {now : Int} {tn : Tok} {news : List (Addr × Obj)} {pos : Pos} {dp un : Nat} {gd : Option (List Code)} {cn : Str} {cs : Scope} {a : Addr} {ccd : Value} {cl : List (Str × Addr)} {outer : List Env} {A₀ : Around} {base h₀ : Heap} {L : Addr} {m : Str → Option Value} {s : Shared} {Q E : Value → Shared → Prop}
    (B : Below A₀ base outer h₀) (F : Fr h₀ L s.heap m) (X : (Mine.hd.heap_39 w.params).In h₀) (N : News h₀ L s.heap news) (T : Top p loose mean mg mb h₀) (hk : cs.kind = .function)
    (n5 : (f, fo) ∈ news) (n6 : (cell, co) ∈ news) (n7 : (nl, listOf #[.int now tn] 0) ∈ news) (n8 : (cq, oq) ∈ news) (hd : dp + 2 < recursionLimit) (hu : un + 30 < cLine)
    (ret : ∀ t h' tk', Fr h₀ L h' m → News h₀ L h' news → Q (.int now t) { s with heap := h', toks := tk' }) :
    wpAny (model PG w) (ktrTop dp un gd cn cs L a ccd cl outer) (callWith pos (.ref f) [] (backTo pos (starEach [] (envX cn cs L a ccd cl))) []) Q E s :=
  hC now tn news pos dp un gd cn cs a ccd cl outer A₀ base h₀ L m s Q E n5 n6 n7 n8 B F X N T hk hd hu ret

/-- the key's place in the two tables -/
def KeyOk (c1 c2 : List (Str × Int)) (k : Str) (now : Int) : Prop := (kdpHas c1 k = true → now < kdpLook c2 k 0) ∧ (kdpHas c1 k = false → kdpHas c2 k = false)
theorem look_none {c : List (Str × Int)} {k : Str} (h : kdpHas c k = false) : PySem.Spec.lookup (PyData.str k) (kdpD c) = none := by
  have hs := kdpD_isSome k c
  rw [h] at hs
  cases hl : PySem.Spec.lookup (PyData.str k) (kdpD c) with
  | none => rfl
  | some d => rw [hl] at hs; cases hs
theorem ok_gone1 {c1 c2 : List (Str × Int)} {k : Str} {now : Int} (h : KeyOk c1 c2 k now) (hl : kdpLook c2 k 0 ≤ now) : kdpHas c1 k = false := by
  cases e : kdpHas c1 k with
  | false => rfl
  | true => have := h.1 e; omega
theorem ok_gone2 {c1 c2 : List (Str × Int)} {k : Str} {now : Int} (h : KeyOk c1 c2 k now) (hl : kdpLook c2 k 0 ≤ now) : kdpHas c2 k = false := h.2 (ok_gone1 h hl)

-- the common premises of a contract's use
local macro_rules | `(tactic| walk_at "use common") => `(tactic| (walk_at "use commonZ"; (case N => first | k_asm | ktn_no "use: N")))
local macro_rules | `(tactic| walk_at "use commonZ") => `(tactic| (
  (case B => first | k_asm | ktn_no "use: B")
  (case F => first | k_asm | ktn_no "use: F")
  (case X => first | k_asm | ktn_no "use: X")
  (case T => first | k_asm | ktn_no "use: T")
  (case hk => first | exact rfl | assumption | ktn_no "use: hk")
  (case hd => first | ktr_room | ktn_no "use: hd")
  (case hu => first | ktr_units | ktn_no "use: hu")))
-- a store's premises
local macro_rules | `(tactic| walk_at "use store") => `(tactic| (
  (case n1 => k_mem); (case n2 => k_mem); (case n3 => k_mem); (case n4 => k_mem); (case n5 => k_mem); (case n6 => k_mem); (case n7 => k_mem); (case n8 => k_mem);
  (case ls => assumption); (case le => assumption); (case hs => assumption); (case fs => assumption); (case he => assumption); (case fe => assumption)))
local macro_rules | `(tactic| walk_at "callWith ref") => `(tactic| (k_here; k_dflt (refine' clock_use ?hC ?B ?F ?X ?N ?T ?hk ?n5 ?n6 ?n7 ?n8 ?hd ?hu ?_; (case hC => assumption); walk_at "use common"; (case n5 => k_mem); (case n6 => k_mem); (case n7 => k_mem); (case n8 => k_mem)); intro t9 h9 tk9 F' N'; (try dsimp only)))
local macro_rules | `(tactic| walk_at "getMethod ref") => `(tactic| (k_here; (with_reducible show wpAny _ _ (getMethod (Value.ref _) (PySem.Str.ofString "clock") _) _ _ _); walk_at "last getMethod ref"))
local macro_rules | `(tactic| walk_at "call builtin:dict.get") => `(tactic| (k_here; k_dflt ((show wpAny _ _ (call (Value.builtin "dict.get") [Value.ref _, Value.str _ _, Value.int _ _]) _ _ _); refine kdp_get2 (by k_tabat) ?_); intro _))
local macro_rules | `(tactic| walk_at "call builtin:dict.pop") => `(tactic| (k_here; k_dflt ((show wpAny _ _ (call (Value.builtin "dict.pop") [Value.ref _, Value.str _ _, _]) _ _ _); refine kt_pop_default PyProof.V.same_str (strKind_is _ _ _ _) (by rfl) (by k_tabat) (PySem.F.args_dict_pop_3 _ _ _) (look_none (by first | assumption | exact ok_gone1 (by assumption) (by assumption) | exact ok_gone2 (by assumption) (by assumption))) ?_)))
local macro_rules | `(tactic| k_mem) => `(tactic| first | assumption | exact List.mem_cons_self | (refine List.mem_cons_of_mem _ ?_; k_mem))
-- the ledger's entries that a contract asks back
local macro_rules | `(tactic| walk_at "use sub") => `(tactic| first
  | k_asm
  | (refine cb_drop (by k_asm) ?_; intro p9 hp9; rcases List.mem_cons.mp hp9 with h9 | h9; (· subst h9; k_mem); (· k_mem))
  | (refine cb_drop (by k_asm) ?_; intro p9 hp9; k_mem)
  | ktn_no "use sub")
local macro_rules | `(tactic| walk_at "getMethod ref") => `(tactic| (k_here; (with_reducible show wpAny _ _ (getMethod (Value.ref _) (PySem.Str.ofString "sliding_window_keys") _) _ _ _); walk_at "last getMethod ref"))
local macro_rules | `(tactic| walk_at "my enter") => `(tactic| (refine' code_def ?k1 ?k2 ?k3 ?k4 ?k5 ?kA ?kF ?kK ?k6 ?k7 ?k8 ?k9 ?kB ?_ ?c2 ?c3 ?c4 ?c5; (case kA => exact rfl); (case kF => exact rfl); (case kK => first | exact rfl | assumption); (case k1 => k_asm); (case k2 => k_asm); (case k3 => k_asm); (case k4 => k_asm); (case k5 => k_asm); (case k6 => k_is); (case k7 => k_is); (case k8 => ktr_room); (case k9 => first | exact BindsTo.of_eq rfl | exact binds_K (by k_in) rfl (by k_is) rfl rfl rfl); (case c5 => decide); (case kB => exact locs rfl); (case c2 => exact rfl); (case c3 => exact rfl); (case c4 => exact rfl); k_whole; intro g' L' h' FG' F' N' B' X' T'; (try dsimp only); (try k_lift B'); (try k_fold)))
-- the two tables ahead of the rest
local macro_rules | `(tactic| walk_at "use two") => `(tactic| (refine cb_drop (by k_asm) ?_; intro p9 hp9; rcases List.mem_cons.mp hp9 with h9 | h9; (· subst h9; k_mem); rcases List.mem_cons.mp h9 with h9 | h9; (· subst h9; k_mem); (· k_mem)))
local macro_rules | `(tactic| walk_at "call ref") => `(tactic| (k_here; k_dflt ((show wpAny _ _ (call (Value.ref _) _ _) _ _ _); refine wpAny_call ?_; walk_at "my enter")))

set_option maxHeartbeats 4000000 in
theorem get_spec {w : World} {p : Program} {loose : List Str} {mean : ExcName → Option Value} {mg mb : Str → Option Value} {dp un : Nat} {gd : Option (List Code)} {cn : Str} {cs : Scope} {a : Addr} {ccd : Value} {cl : List (Str × Addr)} {outer : List Env} {A₀ : Around} {base h₀ : Heap} {L : Addr} {m : Str → Option Value} {s : Shared} {Q E : Value → Shared → Prop} {news : List (Addr × Obj)} {x1 d1 ds de dv f cell nl cq : Addr} {fo co oq os oe : Obj} {t1 t2 t3 t4 tn : Tok} {now : Int} {kvs kve : List (Str × Value)} {c1 c2 : List (Str × Int)} {k : Str} {tk : Tok} (B : Below A₀ base outer h₀) (F : Fr h₀ L s.heap m) (X : (Mine.hd.heap_39 w.params).In h₀) (N : News h₀ L s.heap news) (T : Top p loose mean mg mb h₀) (hk : cs.kind = .function) (hd : dp + 9 < recursionLimit) (hu : un + 80 < cLine) (hC : ClockSpec w p loose mean mg mb f cell nl cq fo co oq) (n1 : (x1, instObj 568 d1) ∈ news) (n2 : (d1, dictOf [⟨PySem.PyData.keyHash w.params (Str.ofString "clock"), .str (Str.ofString "clock") t1, .ref f⟩, ⟨PySem.PyData.keyHash w.params (Str.ofString "storage"), .str (Str.ofString "storage") t2, .ref ds⟩, ⟨PySem.PyData.keyHash w.params (Str.ofString "expirations"), .str (Str.ofString "expirations") t3, .ref de⟩, ⟨PySem.PyData.keyHash w.params (Str.ofString "events"), .str (Str.ofString "events") t4, .ref dv⟩] 4) ∈ news) (n5 : (f, fo) ∈ news) (n6 : (cell, co) ∈ news) (n7 : (nl, listOf #[.int now tn] 0) ∈ news) (n8 : (cq, oq) ∈ news) (ls : (ds == sysModules) = false) (le : (de == sysModules) = false) (hs : os.IsDictOf (strKind PG w) kvs) (fs : FlatPairs PyData.str kvs (kdpD c1)) (he : oe.IsDictOf (strKind PG w) kve) (fe : FlatPairs PyData.str kve (kdpD c2)) (n3 : (ds, os) ∈ news) (n4 : (de, oe) ∈ news) (ok : KeyOk c1 c2 k now)
    (ret : ∀ t h' tk', Fr h₀ L h' m → News h₀ L h' news → Q (.int (kdpLook c1 k 0) t) { s with heap := h', toks := tk' }) :
    wpAny (model PG w) (ktrTop dp un gd cn cs L a ccd cl outer) (call (.ref 493)  [.ref x1, .str k tk]) Q E s := by
  w_on
  revert X; (have hR : PySem.Challenge.rw_ji0057_01.name = PySem.Challenge.rw_ji0057_01.name := rfl); revert hR; k_fill; intro hR X; clear hR
  refine wpAny_call ?_
  k_dflt cell_enter
  w_strict (k_steps; (all_goals (exact ret _ _ _ (by k_asm) (by k_asm))))

local macro_rules | `(tactic| walk_at "call ref") => `(tactic| (k_here; (with_reducible show wpAny _ _ (call (Value.ref 493) _ _) _ _ _); k_dflt ((show wpAny _ _ (call (Value.ref 493) [Value.ref _, Value.str _ _]) _ _ _); refine' get_spec ?B ?F ?X ?N ?T ?hk ?hd ?hu ?hC ?n1 ?n2 ?n5 ?n6 ?n7 ?n8 ?ls ?le ?hs ?fs ?he ?fe ?n3 ?n4 ?ok ?_; (case hC => assumption); walk_at "use common"; walk_at "use store"; (case ok => first | assumption | ktn_no "get: the key")); intro t9 h9 tk9 F' N'; (try dsimp only)))

abbrev tupObj (vs : List Value) : Obj := { cls := .type "tuple", data := .seq vs.toArray }
def ttl (pc e now : Int) : Int := if pc = 0 then 0 else e - Int.fmod (now - e) e
set_option maxHeartbeats 4000000 in
theorem info_spec {w : World} {p : Program} {loose : List Str} {mean : ExcName → Option Value} {mg mb : Str → Option Value} {dp un : Nat} {gd : Option (List Code)} {cn : Str} {cs : Scope} {a : Addr} {ccd : Value} {cl : List (Str × Addr)} {outer : List Env} {A₀ : Around} {base h₀ : Heap} {L : Addr} {m : Str → Option Value} {s : Shared} {Q E : Value → Shared → Prop} {news : List (Addr × Obj)} {x1 d1 ds de dv f cell nl cq : Addr} {fo co oq os oe : Obj} {t1 t2 t3 t4 tn : Tok} {now : Int} {kvs kve : List (Str × Value)} {c1 c2 : List (Str × Int)} {pk ck : Str} {tp tc te tw : Tok} {e : Int} (B : Below A₀ base outer h₀) (F : Fr h₀ L s.heap m) (X : (Mine.hd.heap_39 w.params).In h₀) (N : News h₀ L s.heap news) (T : Top p loose mean mg mb h₀) (hk : cs.kind = .function) (hd : dp + 12 < recursionLimit) (hu : un + 120 < cLine) (hC : ClockSpec w p loose mean mg mb f cell nl cq fo co oq) (n1 : (x1, instObj 568 d1) ∈ news) (n2 : (d1, dictOf [⟨PySem.PyData.keyHash w.params (Str.ofString "clock"), .str (Str.ofString "clock") t1, .ref f⟩, ⟨PySem.PyData.keyHash w.params (Str.ofString "storage"), .str (Str.ofString "storage") t2, .ref ds⟩, ⟨PySem.PyData.keyHash w.params (Str.ofString "expirations"), .str (Str.ofString "expirations") t3, .ref de⟩, ⟨PySem.PyData.keyHash w.params (Str.ofString "events"), .str (Str.ofString "events") t4, .ref dv⟩] 4) ∈ news) (n5 : (f, fo) ∈ news) (n6 : (cell, co) ∈ news) (n7 : (nl, listOf #[.int now tn] 0) ∈ news) (n8 : (cq, oq) ∈ news) (ls : (ds == sysModules) = false) (le : (de == sysModules) = false) (hs : os.IsDictOf (strKind PG w) kvs) (fs : FlatPairs PyData.str kvs (kdpD c1)) (he : oe.IsDictOf (strKind PG w) kve) (fe : FlatPairs PyData.str kve (kdpD c2)) (n3 : (ds, os) ∈ news) (n4 : (de, oe) ∈ news)
    (ok1 : KeyOk c1 c2 pk now) (ok2 : KeyOk c1 c2 ck now) (h0 : 1000000 ≤ now) (h9 : now ≤ 2000000000) (e0 : 2 ≤ e) (e9 : e ≤ 8)
    (ret : ∀ pt q a1 a2 a3 a4 h' tk', pt = ttl (kdpLook c1 pk 0) e now → Fr h₀ L h' m → News h₀ L h' ((q, tupObj [.int (kdpLook c1 pk 0) a1, .int pt a2, .int (kdpLook c1 ck 0) a3, .int (e - Int.fmod now e + e) a4]) :: news) → Q (.ref q) { s with heap := h', toks := tk' }) :
    wpAny (model PG w) (ktrTop dp un gd cn cs L a ccd cl outer) (call (.ref 537)  [.ref x1, .str pk tp, .str ck tc, .int e te, .int now tw]) Q E s := by
  w_on
  revert X; (have hR : PySem.Challenge.rw_ji0057_01.name = PySem.Challenge.rw_ji0057_01.name := rfl); revert hR; k_fill; intro hR X; clear hR
  refine wpAny_call ?_
  k_dflt cell_enter
  w_strict (k_steps; (all_goals (refine ret _ _ _ _ _ _ _ _ ?_ (by k_asm) (by k_asm); (simp only [ttl]; first | (rw [if_pos (by assumption)]; done) | (rw [if_neg (by assumption)]; done)))))

local macro_rules | `(tactic| walk_at "call ref") => `(tactic| (k_here; (with_reducible show wpAny _ _ (call (Value.ref 537) _ _) _ _ _); k_dflt ((show wpAny _ _ (call (Value.ref 537) [Value.ref _, Value.str _ _, Value.str _ _, Value.int _ _, Value.int _ _]) _ _ _); refine' info_spec ?B ?F ?X ?N ?T ?hk ?hd ?hu ?hC ?n1 ?n2 ?n5 ?n6 ?n7 ?n8 ?ls ?le ?hs ?fs ?he ?fe ?n3 ?n4 ?ok1 ?ok2 ?h0 ?h9 ?e0 ?e9 ?_; (case hC => assumption); walk_at "use common"; walk_at "use store"; (case ok1 => assumption); (case ok2 => assumption); (case h0 => assumption); (case h9 => assumption); (case e0 => assumption); (case e9 => assumption)); intro pt9 q9 ta9 tb9 tc9 td9 h9 tk9 hpt9 F' N'; (try dsimp only)))

theorem small_div {x e : Int} (h0 : 0 ≤ x) (h9 : x ≤ 2000000000) (e0 : 2 ≤ e) : (Int.fdiv x e).natAbs < 1000000000000000000 := by
  rw [Int.fdiv_eq_ediv_of_nonneg _ (by omega)]
  have h1 : 0 ≤ x / e := Int.ediv_nonneg h0 (by omega)
  have h2 : x / e ≤ x := Int.ediv_le_self _ h0
  omega
theorem not_big {n : Nat} (h : n < 1000000000000000000) : ¬ 10 ^ 4300 ≤ n := Nat.not_le.mpr (lt_digitLimit_of_lt h)
def kx (key : Str) (n : Int) : Str := Str.empty ++ key ++ Str.ofString "/" ++ Str.ofString (toString n)
theorem kx_size {key : Str} {n : Int} (hlen : key.length ≤ 100) (hn : n.natAbs < 10 ^ 4300) : (Str.empty ++ key ++ Str.ofString "/" ++ Str.ofString (toString n)).length ≤ sizeLine := by
  have e := int_text_length_le10 (k := 4300) (by decide) hn
  clear hn
  simp only [Str.length_append, PySem.ofString_length]
  rw [sizeLine_eq]
  have h0 : Str.empty.length = 0 := rfl
  have h1 : ("/" : String).length = 1 := rfl
  omega
local macro_rules | `(tactic| walk_at "formatField int") => `(tactic| (k_here; k_dflt (refine formatField_int rfl (Heap.NoDigits.keeps (Top.nodigits (by assumption)) (Fr.keep (by assumption))) (fun hsm => ?_) (fun hbig => absurd hbig (not_big (small_div (by omega) (by omega) (by omega)))))))
local macro_rules | `(tactic| walk_at "joinParts") => `(tactic| (k_here; (first | (with_reducible show wpAny _ _ (joinParts _ []) _ _ _) | (with_reducible show wpAny _ _ (joinParts _ (evalEach [] _)) _ _ _)); k_dflt (refine joinParts_nil ?_ (kx_size (by assumption) (by assumption)))))
set_option maxHeartbeats 4000000 in
theorem keys_spec {w : World} {p : Program} {loose : List Str} {mean : ExcName → Option Value} {mg mb : Str → Option Value} {dp un : Nat} {gd : Option (List Code)} {cn : Str} {cs : Scope} {a : Addr} {ccd : Value} {cl : List (Str × Addr)} {outer : List Env} {A₀ : Around} {base h₀ : Heap} {L : Addr} {m : Str → Option Value} {s : Shared} {Q E : Value → Shared → Prop} {news : List (Addr × Obj)} {q : Addr} {key : Str} {tp te tw : Tok} {e now : Int} (B : Below A₀ base outer h₀) (F : Fr h₀ L s.heap m) (X : (Mine.hd.heap_39 w.params).In h₀) (N : News h₀ L s.heap news) (T : Top p loose mean mg mb h₀) (hk : cs.kind = .function) (hd : dp + 12 < recursionLimit) (hu : un + 120 < cLine)
    (nq : (q, methodObj (.ref 439) (.ref 568)) ∈ news) (hlen : key.length ≤ 100) (h0 : 1000000 ≤ now) (h9 : now ≤ 2000000000) (e0 : 2 ≤ e) (e9 : e ≤ 8)
    (ret : ∀ q' a1 a2 h' tk', Fr h₀ L h' m → News h₀ L h' ((q', tupObj [.str (kx key (Int.fdiv (now - e) e)) a1, .str (kx key (Int.fdiv now e)) a2]) :: news) → Q (.ref q') { s with heap := h', toks := tk' }) :
    wpAny (model PG w) (ktrTop dp un gd cn cs L a ccd cl outer) (call (.ref q) [.str key tp, .int e te, .int now tw]) Q E s := by
  w_on
  revert X; (have hR : PySem.Challenge.rw_ji0057_01.name = PySem.Challenge.rw_ji0057_01.name := rfl); revert hR; k_fill; intro hR X; clear hR
  refine call_meth N nq ?_
  k_dflt cell_enter
  w_strict (k_steps; (all_goals (first | exact kx_size (by assumption) (by assumption) | exact ret _ _ _ _ _ (by k_asm) (by k_asm))))

local macro_rules | `(tactic| walk_at "call ref") => `(tactic| (k_here; k_dflt ((show wpAny _ _ (call (Value.ref _) [Value.str _ _, Value.int _ _, Value.int _ _]) _ _ _); refine' keys_spec ?B ?F ?X ?N ?T ?hk ?hd ?hu ?nq ?hlen ?h0 ?h9 ?e0 ?e9 ?_; walk_at "use common"; (case nq => k_mem); (case hlen => assumption); (case h0 => assumption); (case h9 => assumption); (case e0 => assumption); (case e9 => assumption)); intro q9 ta9 tb9 h9 tk9 F' N'; (try dsimp only)))


set_option maxHeartbeats 4000000 in
theorem window_spec {w : World} {p : Program} {loose : List Str} {mean : ExcName → Option Value} {mg mb : Str → Option Value} {dp un : Nat} {gd : Option (List Code)} {cn : Str} {cs : Scope} {a : Addr} {ccd : Value} {cl : List (Str × Addr)} {outer : List Env} {A₀ : Around} {base h₀ : Heap} {L : Addr} {m : Str → Option Value} {s : Shared} {Q E : Value → Shared → Prop} {news : List (Addr × Obj)} {x1 d1 ds de dv f cell nl cq : Addr} {fo co oq os oe : Obj} {t1 t2 t3 t4 tn : Tok} {now : Int} {kvs kve : List (Str × Value)} {c1 c2 : List (Str × Int)} {key : Str} {tp te : Tok} {e : Int} (B : Below A₀ base outer h₀) (F : Fr h₀ L s.heap m) (X : (Mine.hd.heap_39 w.params).In h₀) (N : News h₀ L s.heap news) (T : Top p loose mean mg mb h₀) (hk : cs.kind = .function) (hd : dp + 16 < recursionLimit) (hu : un + 200 < cLine) (hC : ClockSpec w p loose mean mg mb f cell nl cq fo co oq) (n1 : (x1, instObj 568 d1) ∈ news) (n2 : (d1, dictOf [⟨PySem.PyData.keyHash w.params (Str.ofString "clock"), .str (Str.ofString "clock") t1, .ref f⟩, ⟨PySem.PyData.keyHash w.params (Str.ofString "storage"), .str (Str.ofString "storage") t2, .ref ds⟩, ⟨PySem.PyData.keyHash w.params (Str.ofString "expirations"), .str (Str.ofString "expirations") t3, .ref de⟩, ⟨PySem.PyData.keyHash w.params (Str.ofString "events"), .str (Str.ofString "events") t4, .ref dv⟩] 4) ∈ news) (n5 : (f, fo) ∈ news) (n6 : (cell, co) ∈ news) (n7 : (nl, listOf #[.int now tn] 0) ∈ news) (n8 : (cq, oq) ∈ news) (ls : (ds == sysModules) = false) (le : (de == sysModules) = false) (hs : os.IsDictOf (strKind PG w) kvs) (fs : FlatPairs PyData.str kvs (kdpD c1)) (he : oe.IsDictOf (strKind PG w) kve) (fe : FlatPairs PyData.str kve (kdpD c2)) (n3 : (ds, os) ∈ news) (n4 : (de, oe) ∈ news)
    (ok1 : KeyOk c1 c2 (kx key (Int.fdiv (now - e) e)) now) (ok2 : KeyOk c1 c2 (kx key (Int.fdiv now e)) now) (hlen : key.length ≤ 100) (h0 : 1000000 ≤ now) (h9 : now ≤ 2000000000) (e0 : 2 ≤ e) (e9 : e ≤ 8)
    (ret : ∀ pt q a1 a2 a3 a4 h' tk', pt = ttl (kdpLook c1 (kx key (Int.fdiv (now - e) e)) 0) e now → Fr h₀ L h' m → News h₀ L h' ((q, tupObj [.int (kdpLook c1 (kx key (Int.fdiv (now - e) e)) 0) a1, .int pt a2, .int (kdpLook c1 (kx key (Int.fdiv now e)) 0) a3, .int (e - Int.fmod now e + e) a4]) :: news) → Q (.ref q) { s with heap := h', toks := tk' }) :
    wpAny (model PG w) (ktrTop dp un gd cn cs L a ccd cl outer) (call (.ref 544)  [.ref x1, .str key tp, .int e te]) Q E s := by
  w_on
  revert X; (have hR : PySem.Challenge.rw_ji0057_01.name = PySem.Challenge.rw_ji0057_01.name := rfl); revert hR; k_fill; intro hR X; clear hR
  refine wpAny_call ?_
  k_dflt cell_enter
  w_strict (k_steps; (all_goals (refine' ret _ _ _ _ _ _ _ _ ?e1 ?e2 ?e3; (case e1 => assumption); (case e2 => k_asm); (case e3 => walk_at "use sub"))))

local macro_rules | `(tactic| walk_at "call ref") => `(tactic| (k_here; (with_reducible show wpAny _ _ (call (Value.ref 544) _ _) _ _ _); k_dflt ((show wpAny _ _ (call (Value.ref 544) [Value.ref _, Value.str _ _, Value.int _ _]) _ _ _); refine' window_spec ?B ?F ?X ?N ?T ?hk ?hd ?hu ?hC ?n1 ?n2 ?n5 ?n6 ?n7 ?n8 ?ls ?le ?hs ?fs ?he ?fe ?n3 ?n4 ?ok1 ?ok2 ?hlen ?h0 ?h9 ?e0 ?e9 ?_; (case hC => assumption); walk_at "use common"; walk_at "use store"; (case ok1 => assumption); (case ok2 => assumption); (case hlen => assumption); (case h0 => assumption); (case h9 => assumption); (case e0 => assumption); (case e9 => assumption)); intro pt9 q9 ta9 tb9 tc9 td9 h9 tk9 hpt9 F' N'; (try dsimp only)))

theorem look_put (c : List (Str × Int)) (k j : Str) (v : Int) : kdpLook (kdpPut c k v) j 0 = if j = k then v else kdpLook c j 0 := by
  have h := kdpD_put c k v
  have h1 := kdpD_getD (kdpPut c k v) j 0
  rw [← h] at h1
  have h2 := kdpD_getD c j 0
  rw [lookup_putK keyEnc_str] at h1
  by_cases e : j = k
  · rw [if_pos e] at h1
    rw [if_pos e]
    exact (PyData.int.inj h1).symm
  · rw [if_neg e] at h1
    rw [if_neg e]
    rw [h2] at h1
    exact (PyData.int.inj h1).symm
theorem look_put_same (c : List (Str × Int)) (k : Str) (v : Int) : kdpLook (kdpPut c k v) k 0 = v := by rw [look_put, if_pos rfl]
theorem inc_zero {c : List (Str × Int)} {k : Str} {a : Int} (h : kdpLook (kdpPut c k (kdpLook c k 0 + a)) k 0 = a) : kdpLook c k 0 = 0 := by rw [look_put_same] at h; omega
theorem inc_pos {c : List (Str × Int)} {k : Str} {a : Int} (h : kdpLook (kdpPut c k (kdpLook c k 0 + a)) k 0 ≠ a) : ¬ kdpLook c k 0 = 0 := by rw [look_put_same] at h; omega
local macro_rules | `(tactic| k_all) => `(tactic| assumption)
local macro_rules | `(tactic| walk_at "setItem ref str") => `(tactic| (k_here; k_dflt ((show wpAny _ _ (setItem (Value.ref _) (Value.str _ _) (Value.int _ _)) _ _ _); refine' kdp_setItem ?F ?N ?U ?d ?f ?z ?_; (case F => k_asm); (case N => k_asm); (case U => k_updF); (case d => k_asm); (case f => k_asm); (case z => omega)); intro h' o' kvs' F' N' hd' hf'; (try dsimp only at N')))
local macro_rules | `(tactic| walk_at "subscriptTail") => `(tactic| (k_here; k_dflt ((show wpAny _ _ (subscriptTail _ _ (Value.ref _) (Value.str _ _)) _ _ _); refine kdp_item (by k_tabat) (by simp only [kdpHas_put, decide_true, Bool.true_or]) ?_); intro _))
set_option maxHeartbeats 4000000 in
theorem incr_spec {w : World} {p : Program} {loose : List Str} {mean : ExcName → Option Value} {mg mb : Str → Option Value} {dp un : Nat} {gd : Option (List Code)} {cn : Str} {cs : Scope} {a : Addr} {ccd : Value} {cl : List (Str × Addr)} {outer : List Env} {A₀ : Around} {base h₀ : Heap} {L : Addr} {m : Str → Option Value} {s : Shared} {Q E : Value → Shared → Prop} {news : List (Addr × Obj)} {x1 d1 ds de dv f cell nl cq : Addr} {fo co oq os oe : Obj} {t1 t2 t3 t4 tn : Tok} {now : Int} {kvs kve : List (Str × Value)} {c1 c2 : List (Str × Int)} {k : Str} {tk te ta : Tok} {e amt : Int} {rest : List (Addr × Obj)} (hnews : news = (ds, os) :: (de, oe) :: rest) (r1 : ∀ p ∈ rest, p.1 ≠ ds) (r2 : ∀ p ∈ rest, p.1 ≠ de) (r3 : @Ne Nat ds de)
    (B : Below A₀ base outer h₀) (F : Fr h₀ L s.heap m) (X : (Mine.hd.heap_39 w.params).In h₀) (N : News h₀ L s.heap news) (T : Top p loose mean mg mb h₀) (hk : cs.kind = .function) (hd : dp + 16 < recursionLimit) (hu : un + 200 < cLine) (hC : ClockSpec w p loose mean mg mb f cell nl cq fo co oq) (n1 : (x1, instObj 568 d1) ∈ rest) (n2 : (d1, dictOf [⟨PySem.PyData.keyHash w.params (Str.ofString "clock"), .str (Str.ofString "clock") t1, .ref f⟩, ⟨PySem.PyData.keyHash w.params (Str.ofString "storage"), .str (Str.ofString "storage") t2, .ref ds⟩, ⟨PySem.PyData.keyHash w.params (Str.ofString "expirations"), .str (Str.ofString "expirations") t3, .ref de⟩, ⟨PySem.PyData.keyHash w.params (Str.ofString "events"), .str (Str.ofString "events") t4, .ref dv⟩] 4) ∈ rest) (n5 : (f, fo) ∈ rest) (n6 : (cell, co) ∈ rest) (n7 : (nl, listOf #[.int now tn] 0) ∈ rest) (n8 : (cq, oq) ∈ rest) (ls : (ds == sysModules) = false) (le : (de == sysModules) = false) (hs : os.IsDictOf (strKind PG w) kvs) (fs : FlatPairs PyData.str kvs (kdpD c1)) (he : oe.IsDictOf (strKind PG w) kve) (fe : FlatPairs PyData.str kve (kdpD c2))
    (ok : KeyOk c1 c2 k now) (z1 : c1.length ≤ 1000) (z2 : c2.length ≤ 1000)
    (h0 : 1000000 ≤ now) (h9 : now ≤ 2000000000)
    (ret : ∀ os' oe' kvs' kve' c2' t h' tk', os'.IsDictOf (strKind PG w) kvs' → FlatPairs PyData.str kvs' (kdpD (kdpPut c1 k (kdpLook c1 k 0 + amt))) → oe'.IsDictOf (strKind PG w) kve' → FlatPairs PyData.str kve' (kdpD c2') →
      c2' = (if kdpLook c1 k 0 = 0 then kdpPut c2 k (now + e) else c2) → Fr h₀ L h' m → News h₀ L h' ((ds, os') :: (de, oe') :: rest) → Q (.int (kdpLook c1 k 0 + amt) t) { s with heap := h', toks := tk' }) :
    wpAny (model PG w) (ktrTop dp un gd cn cs L a ccd cl outer) (call (.ref 478)  [.ref x1, .str k tk, .int e te] [(Str.ofString "amount", .int amt ta)]) Q E s := by
  subst hnews
  w_on
  revert X; (have hR : PySem.Challenge.rw_ji0057_01.name = PySem.Challenge.rw_ji0057_01.name := rfl); revert hR; k_fill; intro hR X; clear hR
  refine wpAny_call ?_
  k_dflt (walk_at "my enter")
  w_strict (k_steps; (all_goals (rw [look_put_same]; refine' ret _ _ _ _ _ _ _ _ ?e1 ?e2 ?e3 ?e4 ?e5 ?e6 ?e7; (case e6 => k_asm); (case e7 => k_asm); (case e1 => assumption); (case e2 => assumption); (case e3 => assumption); (case e4 => assumption); (case e5 => first | (rw [if_pos (inc_zero (by assumption))]; done) | (rw [if_neg (inc_pos (by assumption))]; done)))))

local macro_rules | `(tactic| walk_at "call ref") => `(tactic| (k_here; (with_reducible show wpAny _ _ (call (Value.ref 478) _ _) _ _ _); k_dflt ((show wpAny _ _ (call (Value.ref 478) [Value.ref _, Value.str _ _, Value.int _ _] [(_, Value.int _ _)]) _ _ _); refine' incr_spec rfl ?r1 ?r2 ?r3 ?B ?F ?X ?N ?T ?hk ?hd ?hu ?hC ?n1 ?n2 ?n5 ?n6 ?n7 ?n8 ?ls ?le ?hs ?fs ?he ?fe ?ok ?z1 ?z2 ?h0 ?h9 ?_; (case hC => assumption); (case n1 => assumption); (case n2 => assumption); (case n5 => assumption); (case n6 => assumption); (case n7 => assumption); (case n8 => assumption); (case r1 => assumption); (case r2 => assumption); (case r3 => assumption); walk_at "use commonZ"; (case N => walk_at "use two"); (case ls => assumption); (case le => assumption); (case hs => assumption); (case fs => assumption); (case he => assumption); (case fe => assumption); (case ok => assumption); (case z1 => assumption); (case z2 => assumption); (case h0 => assumption); (case h9 => assumption)); intro os9 oe9 kvs9 kve9 c9 t9 h9 tk9 hd9 hf9 hd8 hf8 hc9 F' N'; (try dsimp only)))

theorem ttl_lo (P e now : Int) (e0 : 2 ≤ e) : 0 ≤ ttl P e now := by
  unfold ttl
  split
  · exact Int.le_refl _
  · have := Int.fmod_lt_of_pos (now - e) (show 0 < e by omega); omega
theorem ttl_hi (P e now : Int) (e0 : 2 ≤ e) : ttl P e now ≤ e := by
  unfold ttl
  split
  · omega
  · have := Int.fmod_nonneg_of_pos (now - e) (show 0 < e by omega); omega
def weighed (c1 : List (Str × Int)) (key : Str) (e now : Int) : Int :=
  Int.fdiv (kdpLook c1 (kx key (Int.fdiv (now - e) e)) 0 * ttl (kdpLook c1 (kx key (Int.fdiv (now - e) e)) 0) e now) e + kdpLook c1 (kx key (Int.fdiv now e)) 0
set_option maxHeartbeats 4000000 in
theorem acq_spec {w : World} {p : Program} {loose : List Str} {mean : ExcName → Option Value} {mg mb : Str → Option Value} {dp un : Nat} {gd : Option (List Code)} {cn : Str} {cs : Scope} {a : Addr} {ccd : Value} {cl : List (Str × Addr)} {outer : List Env} {A₀ : Around} {base h₀ : Heap} {L : Addr} {m : Str → Option Value} {s : Shared} {Q E : Value → Shared → Prop} {news : List (Addr × Obj)} {x1 d1 ds de dv f cell nl cq : Addr} {fo co oq os oe : Obj} {t1 t2 t3 t4 tn : Tok} {now : Int} {kvs kve : List (Str × Value)} {c1 c2 : List (Str × Int)} {key : Str} {tk tl te ta : Tok} {limit e amt : Int} {rest : List (Addr × Obj)} (hnews : news = (ds, os) :: (de, oe) :: rest) (r1 : ∀ p ∈ rest, p.1 ≠ ds) (r2 : ∀ p ∈ rest, p.1 ≠ de) (r3 : @Ne Nat ds de)
    (B : Below A₀ base outer h₀) (F : Fr h₀ L s.heap m) (X : (Mine.hd.heap_39 w.params).In h₀) (N : News h₀ L s.heap news) (T : Top p loose mean mg mb h₀) (hk : cs.kind = .function) (hd : dp + 20 < recursionLimit) (hu : un + 300 < cLine) (hC : ClockSpec w p loose mean mg mb f cell nl cq fo co oq) (n1 : (x1, instObj 568 d1) ∈ rest) (n2 : (d1, dictOf [⟨PySem.PyData.keyHash w.params (Str.ofString "clock"), .str (Str.ofString "clock") t1, .ref f⟩, ⟨PySem.PyData.keyHash w.params (Str.ofString "storage"), .str (Str.ofString "storage") t2, .ref ds⟩, ⟨PySem.PyData.keyHash w.params (Str.ofString "expirations"), .str (Str.ofString "expirations") t3, .ref de⟩, ⟨PySem.PyData.keyHash w.params (Str.ofString "events"), .str (Str.ofString "events") t4, .ref dv⟩] 4) ∈ rest) (n5 : (f, fo) ∈ rest) (n6 : (cell, co) ∈ rest) (n7 : (nl, listOf #[.int now tn] 0) ∈ rest) (n8 : (cq, oq) ∈ rest) (ls : (ds == sysModules) = false) (le : (de == sysModules) = false) (hs : os.IsDictOf (strKind PG w) kvs) (fs : FlatPairs PyData.str kvs (kdpD c1)) (he : oe.IsDictOf (strKind PG w) kve) (fe : FlatPairs PyData.str kve (kdpD c2))
    (ok1 : KeyOk c1 c2 (kx key (Int.fdiv (now - e) e)) now) (ok2 : KeyOk c1 c2 (kx key (Int.fdiv now e)) now) (z1 : c1.length ≤ 1000) (z2 : c2.length ≤ 1000)
    (hlen : key.length ≤ 100) (h0 : 1000000 ≤ now) (h9 : now ≤ 2000000000) (e0 : 2 ≤ e) (e9 : e ≤ 8)
    (p0 : 0 ≤ kdpLook c1 (kx key (Int.fdiv (now - e) e)) 0) (p9 : kdpLook c1 (kx key (Int.fdiv (now - e) e)) 0 ≤ 9) (q0 : 0 ≤ kdpLook c1 (kx key (Int.fdiv now e)) 0) (q9 : kdpLook c1 (kx key (Int.fdiv now e)) 0 ≤ 9)
    (retF : (limit < amt ∨ limit < weighed c1 key e now + amt) → ∀ h' tk', Fr h₀ L h' m → News h₀ L h' ((ds, os) :: (de, oe) :: rest) → Q (.bool false) { s with heap := h', toks := tk' })
    (retT : amt ≤ limit → weighed c1 key e now + amt ≤ limit → ∀ os' oe' kvs' kve' c2' h' tk', os'.IsDictOf (strKind PG w) kvs' → FlatPairs PyData.str kvs' (kdpD (kdpPut c1 (kx key (Int.fdiv now e)) (kdpLook c1 (kx key (Int.fdiv now e)) 0 + amt))) → oe'.IsDictOf (strKind PG w) kve' → FlatPairs PyData.str kve' (kdpD c2') →
      c2' = (if kdpLook c1 (kx key (Int.fdiv now e)) 0 = 0 then kdpPut c2 (kx key (Int.fdiv now e)) (now + 2 * e) else c2) → Fr h₀ L h' m → News h₀ L h' ((ds, os') :: (de, oe') :: rest) → Q (.bool true) { s with heap := h', toks := tk' }) :
    wpAny (model PG w) (ktrTop dp un gd cn cs L a ccd cl outer) (call (.ref 530)  [.ref x1, .str key tk, .int limit tl, .int e te, .int amt ta]) Q E s := by
  subst hnews
  w_on
  revert X; (have hR : PySem.Challenge.rw_ji0057_01.name = PySem.Challenge.rw_ji0057_01.name := rfl); revert hR; k_fill; intro hR X; clear hR
  refine wpAny_call ?_
  k_dflt (walk_at "my enter")
  w_strict (k_steps; (all_goals (try (rename (_ = ttl _ _ _) => hpt; subst hpt))); (all_goals first
    | (refine' retF ?e1 _ _ ?e2 ?e3; (case e2 => k_asm); (case e3 => first | k_asm | walk_at "use two"); (case e1 => (unfold weighed; omega)))
    | (refine' retT ?e8 ?e9 _ _ _ _ _ _ _ ?e1 ?e2 ?e3 ?e4 ?e5 ?e6 ?e7; (case e6 => k_asm); (case e7 => k_asm); (case e1 => assumption); (case e2 => assumption); (case e3 => assumption); (case e4 => assumption); (case e5 => assumption); (case e8 => omega); (case e9 => (unfold weighed; omega)))))

local macro_rules | `(tactic| walk_at "call ref") => `(tactic| (k_here; (with_reducible show wpAny _ _ (call (Value.ref 530) _ _) _ _ _); k_dflt ((show wpAny _ _ (call (Value.ref 530) [Value.ref _, Value.str _ _, Value.int _ _, Value.int _ _, Value.int _ _]) _ _ _); refine' acq_spec rfl ?r1 ?r2 ?r3 ?B ?F ?X ?N ?T ?hk ?hd ?hu ?hC ?n1 ?n2 ?n5 ?n6 ?n7 ?n8 ?ls ?le ?hs ?fs ?he ?fe ?ok1 ?ok2 ?z1 ?z2 ?hlen ?h0 ?h9 ?e0 ?e9 ?p0 ?p9 ?q0 ?q9 ?_ ?_; (case hC => assumption); (case n1 => assumption); (case n2 => assumption); (case n5 => assumption); (case n6 => assumption); (case n7 => assumption); (case n8 => assumption); (case r1 => assumption); (case r2 => assumption); (case r3 => assumption); walk_at "use commonZ"; (case N => walk_at "use two"); (case ls => assumption); (case le => assumption); (case hs => assumption); (case fs => assumption); (case he => assumption); (case fe => assumption); (case ok1 => assumption); (case ok2 => assumption); (case z1 => assumption); (case z2 => assumption); (case hlen => assumption); (case h0 => assumption); (case h9 => assumption); (case e0 => assumption); (case e9 => assumption); (case p0 => assumption); (case p9 => assumption); (case q0 => assumption); (case q9 => assumption)); (all_goals (first | (intro ha9 hw9 os9 oe9 kvs9 kve9 c9 h9 tk9 hd9 hf9 hd8 hf8 hc9 F' N'; (try dsimp only)) | (intro hw9 h9 tk9 F' N'; (try dsimp only))))))

theorem ga_split : splitId "tuple.__getattribute__" = some ("tuple", "__getattribute__") := by decide +kernel
theorem ga_kind : builtinKind "tuple.__getattribute__" = some .slot := by simp only [builtinKind, ga_split]; decide +kernel
theorem ga_ne : (Value.builtin "tuple.__getattribute__" == Value.builtin "object.__getattribute__") = false := by decide +kernel
section
variable {prog : Program} {w : World} {A : Around} {E : Value → Shared → Prop} {s : Shared} {K : Frag} {x C : Addr} {ox : Obj} {od : Option Obj} {name : Str} {expr : Bool} {Q : Value → Shared → Prop}
theorem looks_inst_of {M : Model} {h : Heap} {base : Value} (X : K.In h) (I : InstAt h x ox C od) (hm : mroIn K C base = some true) : Looks M h (isInstance (.ref x) base) true := by
  unfold isInstance
  exact I.type.andThen (looks_mroIn X hm)
theorem entry_tuple_gaM : entryFor table "tuple.__getattribute__" = some Builtin.«object.__getattribute__» :=
  entryFor_alias (id' := "object.__getattribute__") (by kernel_rfl) (by first | rfl | decide +kernel) (by decide +kernel) (by kernel_rfl)
set_option maxHeartbeats 400000 in
theorem get_bindT {g a : Value} (X : K.In s.heap) (I : InstAt s.heap x ox C od) (hga : findIn K (.ref C) "__getattribute__" = some (some (.builtin "tuple.__getattribute__")))
    (hm : mroIn K C (.type "tuple") = some true) (hf : findObj K C od name = some (.bind g a)) (hk : findIn K (.ref C) "__getattr__" = some none)
    (h : wpAny (model prog w) A.in1 (call g [a, .ref x, .ref C]) (fun v s' => wpAny (model prog w) A (handedOut v) Q E s') (fun _ _ => False) { s with toks := s.toks + 1 }) :
    wpAny (model prog w) A (getAttr (.ref x) name expr) Q E s := by
  obtain ⟨hh, gg, d, t, os⟩ := s
  have L0 := I.type (M := model prog w)
  have L1 := looks_findIn (M := model prog w) X hga
  have L2 := looks_findIn (M := model prog w) X hk
  have L3 := looks_find (M := model prog w) X I hf
  have L4 := looks_inst_of (M := model prog w) X I hm
  unfold getAttr getAttrBy
  refine wpAny_bind (wpAny_mkText (wpAny_holding (wpAny_bind (L0.at (wpAny_bind (L1.at ?_))))))
  have e1 : (if (onTheHeap (Value.ref C) && Value.builtin "tuple.__getattribute__" == Value.builtin "object.__getattribute__") = true then getAttrEveryday (.ref x) (.str name t) true else getAttrByItsOwn (.ref x) (.str name t) (.ref C) (.builtin "tuple.__getattribute__") true expr) = getAttrByItsOwn (.ref x) (.str name t) (.ref C) (.builtin "tuple.__getattribute__") true expr := by
    rw [ga_ne, Bool.and_false, if_neg Bool.false_ne_true]
  dsimp only
  rw [e1]
  unfold getAttrByItsOwn
  refine wpAny_bind ?_
  have e2 : hookBefore (Value.ref C) = typeLookup (.ref C) "__getattr__" := rfl
  rw [e2]
  refine L2.at ?_
  refine wpAny_bind (wpAny_attempt (wpAny_holding ?_))
  have e : callGetattribute (.ref x) (.str name t) (.builtin "tuple.__getattribute__") expr = boundAndCalled (.builtin "tuple.__getattribute__") (.ref x) (.str name t) := by
    unfold callGetattribute
    cases expr <;> rfl
  rw [e]
  unfold boundAndCalled
  rw [F.slot_tuple_getattribute.bind]
  refine wpAny_bind (wpAny_pure ?_)
  show wpAny _ _ (call (.builtin "tuple.__getattribute__") [.ref x, .str name t]) _ _ _
  refine wpAny_call ?_
  refine codeAny_call_builtin F.slot_tuple_getattribute.plain entry_tuple_gaM ?_
  refine @check_slot (model prog w) _ _ _ "tuple.__getattribute__" "tuple" "__getattribute__" (.ref x) [.str name t] [] _ ga_kind ga_split L4 (F.args_tuple_getattribute_2 (.ref x) (.str name t)) ?_
  unfold Builtin.«object.__getattribute__»
  repeat ((fail_if_success (with_reducible show wpAny _ _ (call _ _ _) _ _ _)); lk)
  exact wpAny_mono h (fun v s' z => wpAny_pure z) fun _ _ z => z.elim
end


theorem gi_split : splitId "tuple.__getitem__" = some ("tuple", "__getitem__") := by decide +kernel
theorem gi_kind : builtinKind "tuple.__getitem__" = some .slot := by simp only [builtinKind, gi_split]; decide +kernel
theorem cls_of_mro {K : Frag} {C : Addr} {b : Value} {r : Bool} (h : mroIn K C b = some r) : (clsIn K C).isSome = true := by
  unfold mroIn at h
  cases e : clsIn K C with
  | none => rw [e] at h; cases h
  | some cd => rfl
section
variable {prog : Program} {w : World} {A : Around} {E : Value → Shared → Prop} {s : Shared} {K : Frag} {x C : Addr} {ox : Obj} {od : Option Obj} {Q : Value → Shared → Prop}
theorem issub_nested {Q : Fin → Shared → Prop} (X : K.In s.heap) (hc : (clsIn K C).isSome = true) (hm : mroIn K C (.type "tuple") = some true) (hq : Q (.done (.ret (.bool true))) s) :
    wpAny (model prog w) A (Builtin.«issubclass.nested» ⟨[.ref C, .type "tuple", rawInt 0], []⟩) Q E s := by
  obtain ⟨hh, g, d, t, os⟩ := s
  obtain ⟨cd, hcd⟩ := Option.isSome_iff_exists.mp hc
  have L0 : Looks (model prog w) hh (typeOf (.type "tuple")) (.type "type") := Looks.of_pure (by kernel_rfl)
  have ho : ∃ c dd sl, hh.get? C = some ⟨c, dd, .cls cd, sl⟩ := by
    unfold clsIn at hcd
    split at hcd
    · rename_i ho; cases hcd; exact ⟨_, _, _, X _ _ ho⟩
    · cases hcd
  obtain ⟨c, dd, sl, ho⟩ := ho
  have L2 := looks_mroIn (M := model prog w) X hm
  unfold Builtin.«issubclass.nested»
  repeat lk
  exact hq
theorem issub_call (X : K.In s.heap) (hm : mroIn K C (.type "tuple") = some true) (hq : Q (.bool true) s) : wpAny (model prog w) A (call (.builtin "issubclass") [.ref C, .type "tuple"]) Q E s :=
  call_issubclass (S := fun _ R s => K.In s.heap ∧ R (.ok (.ret (.bool true))) s) (fun _ _ _ _ _ hs => issubclass_outer (issub_nested hs.1 (cls_of_mro hm) hm hs.2)) ⟨X, hq⟩
theorem getitem_sub {vs : List Value} {n : Nat} {i : Int} {u : Tok} {k : Nat} {y : Value} (X : K.In s.heap) (I : InstAt s.heap x ox C od) (hd : ox.data = .seq vs.toArray n) (hm : mroIn K C (.type "tuple") = some true)
    (hlo : -2 ^ 63 ≤ i) (hhi : i < 2 ^ 63) (hk : seqIndex? i vs.length = some k) (hy : vs[k]? = some y) (hq : Q y s) :
    wpAny (model prog w) A (call (.builtin "tuple.__getitem__") [.ref x, .int i u]) Q E s := by
  refine wpAny_call ?_
  refine codeAny_call_builtin F.slot_tuple_getitem.plain F.entry_tuple_getitem ?_
  refine @check_slot (model prog w) _ _ _ "tuple.__getitem__" "tuple" "__getitem__" (.ref x) [.int i u] [] _ gi_kind gi_split (looks_inst_of X I hm) (F.args_tuple_getitem_2 (.ref x) (.int i u)) ?_
  have hI := I.at_
  obtain ⟨hh, g, d, t, os⟩ := s
  have f1 := AutoSeq1.idx_int
  have hf : ¬ (decide (i < -2 ^ 63) || decide (i ≥ 2 ^ 63)) = true := by simp; omega
  obtain ⟨oc, odd, oda, osl⟩ := ox
  dsimp only at hd hI
  subst hd
  wp_walk using wpAny_loadPart' hI
  refine wpAny_ite_false (decide_eq_false hf) ?_
  simp only [List.size_toArray, List.getElem?_toArray, hk, hy, Option.bind_some]
  wp_walk
  exact hq
theorem get_fieldT {g a : Value} {name : Str} {expr : Bool} {oq : Obj} (X : K.In s.heap) (I : InstAt s.heap x ox C (some oq)) (hga : findIn K (.ref C) "__getattribute__" = some (some (.builtin "tuple.__getattribute__")))
    (hm : mroIn K C (.type "tuple") = some true) (ha : findIn K (.ref C) name = some (some a)) (hg : specialIn K a "__get__" = some (some g)) (ht : takesIn K a = some true) (hk : findIn K (.ref C) "__getattr__" = some none)
    (h : wpAny (model prog w) A.in1 (call g [a, .ref x, .ref C]) (fun v s' => wpAny (model prog w) A (handedOut v) Q E s') (fun _ _ => False) { s with toks := s.toks + 1 }) :
    wpAny (model prog w) A (getAttr (.ref x) name expr) Q E s := get_bindT X I hga hm (findObj_data (cls_of_mro hm) ha hg ht) hk h
end


def InstEv (w : World) (news : List (Addr × Obj)) (x : Addr) (ox : Obj) (C : Addr) (od : Obj) : Prop :=
  ∀ (g : Heap) (L' : Addr) (h' : Heap) (m' : Str → Option Value), Fr g L' h' m' → News g L' h' news → (Mine.hd.heap_39 w.params).In g → InstAt h' x ox C (some od)
theorem InstEv.at {w : World} {news : List (Addr × Obj)} {x C : Addr} {ox od : Obj} {g : Heap} {L' : Addr} {h' : Heap} {m' : Str → Option Value} (hI : InstEv w news x ox C od) (F : Fr g L' h' m') (N : News g L' h' news) (X : (Mine.hd.heap_39 w.params).In g) : InstAt h' x ox C (some od) := hI g L' h' m' F N X
theorem instEv_N {w : World} {news : List (Addr × Obj)} {x C dx : Addr} {vs : List Value} {n : Nat} {sl : Array (Option Value)} {od : Obj} (h1 : (x, (⟨.ref C, some dx, .seq vs.toArray n, sl⟩ : Obj)) ∈ news) (h2 : (dx, od) ∈ news) : InstEv w news x ⟨.ref C, some dx, .seq vs.toArray n, sl⟩ C od :=
  fun _ _ _ _ _ N _ => ⟨(N _ h1).1, rfl, rfl, (N _ h2).1⟩
theorem instEv_K {w : World} {news : List (Addr × Obj)} {x C dx : Addr} {vs : List Value} {n : Nat} {sl : Array (Option Value)} {od : Obj} (h1 : (Mine.hd.heap_39 w.params).lookup x = some (⟨.ref C, some dx, .seq vs.toArray n, sl⟩ : Obj)) (h2 : (Mine.hd.heap_39 w.params).lookup dx = some od) : InstEv w news x ⟨.ref C, some dx, .seq vs.toArray n, sl⟩ C od :=
  fun _ _ _ _ F _ X => ⟨F.keep _ _ (X _ _ h1), rfl, rfl, F.keep _ _ (X _ _ h2)⟩
local macro_rules | `(tactic| walk_at "call type:type") => `(tactic| (k_here; k_dflt ((show wpAny _ _ (call (Value.type "type") [Value.ref _]) _ _ _); refine' kto_own (InstEv.at ?e ?F ?N ?X) ?_; (case e => assumption); (case F => k_asm); (case N => k_asm); (case X => k_asm); k_whole)))
local macro_rules | `(tactic| walk_at "call builtin:issubclass") => `(tactic| (k_here; k_dflt ((show wpAny _ _ (call (Value.builtin "issubclass") [Value.ref _, Value.type "tuple"]) _ _ _); refine' issub_call ?X ?m ?_; (case X => k_in); (case m => k_is); k_whole)))
local macro_rules | `(tactic| walk_at "call builtin:tuple.__getitem__") => `(tactic| (k_here; k_dflt ((show wpAny _ _ (call (Value.builtin "tuple.__getitem__") [Value.ref _, Value.int _ _]) _ _ _); refine' getitem_sub ?X (InstEv.at ?e ?F ?N ?Y) ?dd ?m ?a ?b ?kk ?yy ?_; (case e => assumption); (case F => k_asm); (case N => k_asm); (case Y => k_asm); (case dd => exact rfl); (case kk => exact rfl); (case yy => exact rfl); (case X => k_in); (case m => k_is); (case a => decide); (case b => decide); k_whole)))
theorem meta_tupleM : typeOf (.type "tuple") = pure (.type "type") := by kernel_rfl
local macro_rules | `(tactic| walk_at "getMethod type:tuple") => `(tactic| (k_here; refine' method_type ?F ?X ?m (by decide +kernel) ?e ?h ?_; (case F => k_asm); (case X => k_asm); (case m => exact meta_tupleM); (case e => k_dflt k_is); (case h => k_handed)))
set_option maxHeartbeats 4000000 in
theorem fieldW0 {w : World} {p : Program} {loose : List Str} {mean : ExcName → Option Value} {mg mb : Str → Option Value} {dp un : Nat} {gd : Option (List Code)} {cn : Str} {cs : Scope} {a : Addr} {ccd : Value} {cl : List (Str × Addr)} {outer : List Env} {A₀ : Around} {base h₀ : Heap} {L : Addr} {m : Str → Option Value} {s : Shared} {Q E : Value → Shared → Prop} {news : List (Addr × Obj)} {x dx : Addr} {v0 v1 : Value} {n : Nat} {sl : Array (Option Value)} {od : Obj} (B : Below A₀ base outer h₀) (F : Fr h₀ L s.heap m) (X : (Mine.hd.heap_39 w.params).In h₀) (N : News h₀ L s.heap news) (T : Top p loose mean mg mb h₀) (hk : cs.kind = .function) (hd : dp + 20 < recursionLimit) (hu : un + 100 < cLine)
    (hI : InstEv w news x ⟨.ref 132, some dx, .seq [v0, v1].toArray n, sl⟩ 132 od) (hv : handedIn v0 = true)
    (ret : ∀ h' tk', Fr h₀ L h' m → News h₀ L h' news → Q v0 { s with heap := h', toks := tk' }) :
    wpAny (model PG w) (ktrTop dp un gd cn cs L a ccd cl outer) (call (.ref 43)  [.ref 124, .ref x, .ref 132]) Q E s := by
  w_on
  revert X; (have hR : PySem.Challenge.rw_ji0057_01.name = PySem.Challenge.rw_ji0057_01.name := rfl); revert hR; k_fill; intro hR X; clear hR
  refine wpAny_call ?_
  k_dflt (walk_at "my enter")
  w_strict (k_steps; (all_goals (exact ret _ _ (by k_asm) (by k_asm))))
set_option maxHeartbeats 4000000 in
theorem attrW0 {w : World} {p : Program} {loose : List Str} {mean : ExcName → Option Value} {mg mb : Str → Option Value} {dp un : Nat} {gd : Option (List Code)} {cn : Str} {cs : Scope} {a : Addr} {ccd : Value} {cl : List (Str × Addr)} {outer : List Env} {A₀ : Around} {base h₀ : Heap} {L : Addr} {m : Str → Option Value} {s : Shared} {Q E : Value → Shared → Prop} {news : List (Addr × Obj)} {x dx : Addr} {v0 v1 : Value} {n : Nat} {sl : Array (Option Value)} {od : Obj} {expr : Bool} (B : Below A₀ base outer h₀) (F : Fr h₀ L s.heap m) (X : (Mine.hd.heap_39 w.params).In h₀) (N : News h₀ L s.heap news) (T : Top p loose mean mg mb h₀) (hk : cs.kind = .function) (hd : dp + 20 < recursionLimit) (hu : un + 101 < cLine)
    (hI : InstEv w news x ⟨.ref 132, some dx, .seq [v0, v1].toArray n, sl⟩ 132 od) (hv : handedIn v0 = true)
    (ret : ∀ h' tk', Fr h₀ L h' m → News h₀ L h' news → Q v0 { s with heap := h', toks := tk' }) :
    wpAny (model PG w) (ktrTop dp un gd cn cs L a ccd cl outer) (getAttr (.ref x) (Str.ofString "reset_time") expr) Q E s := by
  w_on
  revert X; (have hR : PySem.Challenge.rw_ji0057_01.name = PySem.Challenge.rw_ji0057_01.name := rfl); revert hR; k_fill; intro hR X; clear hR
  refine' get_fieldT (X.keeps F.keep) (InstEv.at hI F N X) ?ga ?m ?a ?g ?t ?k ?_
  (case ga => k_is)
  (case m => k_is)
  (case a => k_is)
  (case g => k_is)
  (case t => k_is)
  (case k => k_is)
  exact fieldW0 (un := un + 1) (s := { s with toks := s.toks + 1 }) B F X N T hk hd (by omega) hI hv (fun h' tk' F' N' => by rw [handedOut_of hv]; exact wpAny_pure (ret h' tk' F' N'))
set_option maxHeartbeats 4000000 in
theorem fieldW1 {w : World} {p : Program} {loose : List Str} {mean : ExcName → Option Value} {mg mb : Str → Option Value} {dp un : Nat} {gd : Option (List Code)} {cn : Str} {cs : Scope} {a : Addr} {ccd : Value} {cl : List (Str × Addr)} {outer : List Env} {A₀ : Around} {base h₀ : Heap} {L : Addr} {m : Str → Option Value} {s : Shared} {Q E : Value → Shared → Prop} {news : List (Addr × Obj)} {x dx : Addr} {v0 v1 : Value} {n : Nat} {sl : Array (Option Value)} {od : Obj} (B : Below A₀ base outer h₀) (F : Fr h₀ L s.heap m) (X : (Mine.hd.heap_39 w.params).In h₀) (N : News h₀ L s.heap news) (T : Top p loose mean mg mb h₀) (hk : cs.kind = .function) (hd : dp + 20 < recursionLimit) (hu : un + 100 < cLine)
    (hI : InstEv w news x ⟨.ref 132, some dx, .seq [v0, v1].toArray n, sl⟩ 132 od) (hv : handedIn v1 = true)
    (ret : ∀ h' tk', Fr h₀ L h' m → News h₀ L h' news → Q v1 { s with heap := h', toks := tk' }) :
    wpAny (model PG w) (ktrTop dp un gd cn cs L a ccd cl outer) (call (.ref 43)  [.ref 127, .ref x, .ref 132]) Q E s := by
  w_on
  revert X; (have hR : PySem.Challenge.rw_ji0057_01.name = PySem.Challenge.rw_ji0057_01.name := rfl); revert hR; k_fill; intro hR X; clear hR
  refine wpAny_call ?_
  k_dflt (walk_at "my enter")
  w_strict (k_steps; (all_goals (exact ret _ _ (by k_asm) (by k_asm))))
set_option maxHeartbeats 4000000 in
theorem attrW1 {w : World} {p : Program} {loose : List Str} {mean : ExcName → Option Value} {mg mb : Str → Option Value} {dp un : Nat} {gd : Option (List Code)} {cn : Str} {cs : Scope} {a : Addr} {ccd : Value} {cl : List (Str × Addr)} {outer : List Env} {A₀ : Around} {base h₀ : Heap} {L : Addr} {m : Str → Option Value} {s : Shared} {Q E : Value → Shared → Prop} {news : List (Addr × Obj)} {x dx : Addr} {v0 v1 : Value} {n : Nat} {sl : Array (Option Value)} {od : Obj} {expr : Bool} (B : Below A₀ base outer h₀) (F : Fr h₀ L s.heap m) (X : (Mine.hd.heap_39 w.params).In h₀) (N : News h₀ L s.heap news) (T : Top p loose mean mg mb h₀) (hk : cs.kind = .function) (hd : dp + 20 < recursionLimit) (hu : un + 101 < cLine)
    (hI : InstEv w news x ⟨.ref 132, some dx, .seq [v0, v1].toArray n, sl⟩ 132 od) (hv : handedIn v1 = true)
    (ret : ∀ h' tk', Fr h₀ L h' m → News h₀ L h' news → Q v1 { s with heap := h', toks := tk' }) :
    wpAny (model PG w) (ktrTop dp un gd cn cs L a ccd cl outer) (getAttr (.ref x) (Str.ofString "remaining") expr) Q E s := by
  w_on
  revert X; (have hR : PySem.Challenge.rw_ji0057_01.name = PySem.Challenge.rw_ji0057_01.name := rfl); revert hR; k_fill; intro hR X; clear hR
  refine' get_fieldT (X.keeps F.keep) (InstEv.at hI F N X) ?ga ?m ?a ?g ?t ?k ?_
  (case ga => k_is)
  (case m => k_is)
  (case a => k_is)
  (case g => k_is)
  (case t => k_is)
  (case k => k_is)
  exact fieldW1 (un := un + 1) (s := { s with toks := s.toks + 1 }) B F X N T hk hd (by omega) hI hv (fun h' tk' F' N' => by rw [handedOut_of hv]; exact wpAny_pure (ret h' tk' F' N'))
set_option maxHeartbeats 4000000 in
theorem fieldG0 {w : World} {p : Program} {loose : List Str} {mean : ExcName → Option Value} {mg mb : Str → Option Value} {dp un : Nat} {gd : Option (List Code)} {cn : Str} {cs : Scope} {a : Addr} {ccd : Value} {cl : List (Str × Addr)} {outer : List Env} {A₀ : Around} {base h₀ : Heap} {L : Addr} {m : Str → Option Value} {s : Shared} {Q E : Value → Shared → Prop} {news : List (Addr × Obj)} {x dx : Addr} {v0 v1 : Value} {n : Nat} {sl : Array (Option Value)} {od : Obj} (B : Below A₀ base outer h₀) (F : Fr h₀ L s.heap m) (X : (Mine.hd.heap_39 w.params).In h₀) (N : News h₀ L s.heap news) (T : Top p loose mean mg mb h₀) (hk : cs.kind = .function) (hd : dp + 20 < recursionLimit) (hu : un + 100 < cLine)
    (hI : InstEv w news x ⟨.ref 338, some dx, .seq [v0, v1].toArray n, sl⟩ 338 od) (hv : handedIn v0 = true)
    (ret : ∀ h' tk', Fr h₀ L h' m → News h₀ L h' news → Q v0 { s with heap := h', toks := tk' }) :
    wpAny (model PG w) (ktrTop dp un gd cn cs L a ccd cl outer) (call (.ref 242)  [.ref 330, .ref x, .ref 338]) Q E s := by
  w_on
  revert X; (have hR : PySem.Challenge.rw_ji0057_01.name = PySem.Challenge.rw_ji0057_01.name := rfl); revert hR; k_fill; intro hR X; clear hR
  refine wpAny_call ?_
  k_dflt (walk_at "my enter")
  w_strict (k_steps; (all_goals (exact ret _ _ (by k_asm) (by k_asm))))
set_option maxHeartbeats 4000000 in
theorem attrG0 {w : World} {p : Program} {loose : List Str} {mean : ExcName → Option Value} {mg mb : Str → Option Value} {dp un : Nat} {gd : Option (List Code)} {cn : Str} {cs : Scope} {a : Addr} {ccd : Value} {cl : List (Str × Addr)} {outer : List Env} {A₀ : Around} {base h₀ : Heap} {L : Addr} {m : Str → Option Value} {s : Shared} {Q E : Value → Shared → Prop} {news : List (Addr × Obj)} {x dx : Addr} {v0 v1 : Value} {n : Nat} {sl : Array (Option Value)} {od : Obj} {expr : Bool} (B : Below A₀ base outer h₀) (F : Fr h₀ L s.heap m) (X : (Mine.hd.heap_39 w.params).In h₀) (N : News h₀ L s.heap news) (T : Top p loose mean mg mb h₀) (hk : cs.kind = .function) (hd : dp + 20 < recursionLimit) (hu : un + 101 < cLine)
    (hI : InstEv w news x ⟨.ref 338, some dx, .seq [v0, v1].toArray n, sl⟩ 338 od) (hv : handedIn v0 = true)
    (ret : ∀ h' tk', Fr h₀ L h' m → News h₀ L h' news → Q v0 { s with heap := h', toks := tk' }) :
    wpAny (model PG w) (ktrTop dp un gd cn cs L a ccd cl outer) (getAttr (.ref x) (Str.ofString "seconds") expr) Q E s := by
  w_on
  revert X; (have hR : PySem.Challenge.rw_ji0057_01.name = PySem.Challenge.rw_ji0057_01.name := rfl); revert hR; k_fill; intro hR X; clear hR
  refine' get_fieldT (X.keeps F.keep) (InstEv.at hI F N X) ?ga ?m ?a ?g ?t ?k ?_
  (case ga => k_is)
  (case m => k_is)
  (case a => k_is)
  (case g => k_is)
  (case t => k_is)
  (case k => k_is)
  exact fieldG0 (un := un + 1) (s := { s with toks := s.toks + 1 }) B F X N T hk hd (by omega) hI hv (fun h' tk' F' N' => by rw [handedOut_of hv]; exact wpAny_pure (ret h' tk' F' N'))
set_option maxHeartbeats 4000000 in
theorem fieldG1 {w : World} {p : Program} {loose : List Str} {mean : ExcName → Option Value} {mg mb : Str → Option Value} {dp un : Nat} {gd : Option (List Code)} {cn : Str} {cs : Scope} {a : Addr} {ccd : Value} {cl : List (Str × Addr)} {outer : List Env} {A₀ : Around} {base h₀ : Heap} {L : Addr} {m : Str → Option Value} {s : Shared} {Q E : Value → Shared → Prop} {news : List (Addr × Obj)} {x dx : Addr} {v0 v1 : Value} {n : Nat} {sl : Array (Option Value)} {od : Obj} (B : Below A₀ base outer h₀) (F : Fr h₀ L s.heap m) (X : (Mine.hd.heap_39 w.params).In h₀) (N : News h₀ L s.heap news) (T : Top p loose mean mg mb h₀) (hk : cs.kind = .function) (hd : dp + 20 < recursionLimit) (hu : un + 100 < cLine)
    (hI : InstEv w news x ⟨.ref 338, some dx, .seq [v0, v1].toArray n, sl⟩ 338 od) (hv : handedIn v1 = true)
    (ret : ∀ h' tk', Fr h₀ L h' m → News h₀ L h' news → Q v1 { s with heap := h', toks := tk' }) :
    wpAny (model PG w) (ktrTop dp un gd cn cs L a ccd cl outer) (call (.ref 242)  [.ref 333, .ref x, .ref 338]) Q E s := by
  w_on
  revert X; (have hR : PySem.Challenge.rw_ji0057_01.name = PySem.Challenge.rw_ji0057_01.name := rfl); revert hR; k_fill; intro hR X; clear hR
  refine wpAny_call ?_
  k_dflt (walk_at "my enter")
  w_strict (k_steps; (all_goals (exact ret _ _ (by k_asm) (by k_asm))))
set_option maxHeartbeats 4000000 in
theorem attrG1 {w : World} {p : Program} {loose : List Str} {mean : ExcName → Option Value} {mg mb : Str → Option Value} {dp un : Nat} {gd : Option (List Code)} {cn : Str} {cs : Scope} {a : Addr} {ccd : Value} {cl : List (Str × Addr)} {outer : List Env} {A₀ : Around} {base h₀ : Heap} {L : Addr} {m : Str → Option Value} {s : Shared} {Q E : Value → Shared → Prop} {news : List (Addr × Obj)} {x dx : Addr} {v0 v1 : Value} {n : Nat} {sl : Array (Option Value)} {od : Obj} {expr : Bool} (B : Below A₀ base outer h₀) (F : Fr h₀ L s.heap m) (X : (Mine.hd.heap_39 w.params).In h₀) (N : News h₀ L s.heap news) (T : Top p loose mean mg mb h₀) (hk : cs.kind = .function) (hd : dp + 20 < recursionLimit) (hu : un + 101 < cLine)
    (hI : InstEv w news x ⟨.ref 338, some dx, .seq [v0, v1].toArray n, sl⟩ 338 od) (hv : handedIn v1 = true)
    (ret : ∀ h' tk', Fr h₀ L h' m → News h₀ L h' news → Q v1 { s with heap := h', toks := tk' }) :
    wpAny (model PG w) (ktrTop dp un gd cn cs L a ccd cl outer) (getAttr (.ref x) (Str.ofString "name") expr) Q E s := by
  w_on
  revert X; (have hR : PySem.Challenge.rw_ji0057_01.name = PySem.Challenge.rw_ji0057_01.name := rfl); revert hR; k_fill; intro hR X; clear hR
  refine' get_fieldT (X.keeps F.keep) (InstEv.at hI F N X) ?ga ?m ?a ?g ?t ?k ?_
  (case ga => k_is)
  (case m => k_is)
  (case a => k_is)
  (case g => k_is)
  (case t => k_is)
  (case k => k_is)
  exact fieldG1 (un := un + 1) (s := { s with toks := s.toks + 1 }) B F X N T hk hd (by omega) hI hv (fun h' tk' F' N' => by rw [handedOut_of hv]; exact wpAny_pure (ret h' tk' F' N'))

local macro_rules | `(tactic| walk_at "getAttr ref") => `(tactic| (k_here; k_dflt ((with_reducible show wpAny _ _ (getAttr (Value.ref _) (Str.ofString "seconds") _) _ _ _); refine' attrG0 ?B ?F ?X ?N ?T ?hk ?hd ?hu ?hI ?hv ?_; walk_at "use common"; (case hI => first | assumption | (refine' instEv_K ?l1 ?l2; (case l1 => k_is); (case l2 => k_is))); (case hv => rfl)); intro h9 tk9 F' N'; (try dsimp only)))
local macro_rules | `(tactic| walk_at "getAttr ref") => `(tactic| (k_here; k_dflt ((with_reducible show wpAny _ _ (getAttr (Value.ref _) (Str.ofString "name") _) _ _ _); refine' attrG1 ?B ?F ?X ?N ?T ?hk ?hd ?hu ?hI ?hv ?_; walk_at "use common"; (case hI => first | assumption | (refine' instEv_K ?l1 ?l2; (case l1 => k_is); (case l2 => k_is))); (case hv => rfl)); intro h9 tk9 F' N'; (try dsimp only)))
local macro_rules | `(tactic| walk_at "getAttr ref") => `(tactic| (k_here; k_dflt ((with_reducible show wpAny _ _ (getAttr (Value.ref _) (Str.ofString "reset_time") _) _ _ _); refine' attrW0 ?B ?F ?X ?N ?T ?hk ?hd ?hu ?hI ?hv ?_; walk_at "use common"; (case hI => first | assumption | exact instEv_N (by k_mem) (by k_mem)); (case hv => rfl)); intro h9 tk9 F' N'; (try dsimp only)))
local macro_rules | `(tactic| walk_at "getAttr ref") => `(tactic| (k_here; k_dflt ((with_reducible show wpAny _ _ (getAttr (Value.ref _) (Str.ofString "remaining") _) _ _ _); refine' attrW1 ?B ?F ?X ?N ?T ?hk ?hd ?hu ?hI ?hv ?_; walk_at "use common"; (case hI => first | assumption | exact instEv_N (by k_mem) (by k_mem)); (case hv => rfl)); intro h9 tk9 F' N'; (try dsimp only)))

section
variable {prog : Program} {w : World} {A A₀ : Around} {E : Value → Shared → Prop} {s : Shared} {K : Frag} {C L : Addr} {h₀ base : Heap} {m mg mb : Str → Option Value} {news : List (Addr × Obj)} {p : Program} {loose : List Str} {mean : ExcName → Option Value} {Q : Value → Shared → Prop}
/-- entering a def, and what stood outside the ledger stands behind it -/
theorem code_defG {env : Env} {outer : List Env} {R : Result → Shared → Prop} {name qual : Str} {params : Arguments} {body : List Stmt} {scope : Scope} {dV kV doc pm cdv ct oc : Value} {an od : Option Addr} {osl : Array (Option Value)} {f : Addr} {args : Args} {binds : List (Str × Value)}
    (B : Below A₀ base outer h₀) (F : Fr h₀ L s.heap m) (X₀ : K.In h₀) (N : News h₀ L s.heap news) (T : Top p loose mean mg mb h₀) (hA : A.frames = some (env :: outer)) (hf : env.frame = some L) (hke : env.scope.kind = .function)
    (ho : K.lookup f = some ⟨oc, od, .func (fnOf name qual params body scope dV kV doc pm an cdv ct), osl⟩) (hcd : codeIn K cdv qual = true) (hroom : A.depth < recursionLimit)
    (hbind : BindsTo s (fnOf name qual params body scope dV kV doc pm an cdv ct) args binds) (hloc : ∀ y ∈ binds, scope.names.lookup y.1 = some .local)
    (h : ∀ g L' h₁, Fr h₀ L g m → Fr g L' h₁ (fun y => binds.reverse.lookup y) → News g L' h₁ news → Below A base (env :: outer) g → K.In g → Top p loose mean mg mb g → (∀ b o, s.heap.get? b = some o → b ∉ news.map (·.1) → g.get? b = some o) →
      wpAny (model prog w) (A.deeper (envOf qual scope L' f cdv)) (execs body (envOf qual scope L' f cdv))
        (fun fl s' => LeaveK h₀ L m g (fun r s'' => (∀ b o, g.get? b = some o → s''.heap.get? b = some o) → R r s'') (match fl with | .ret v => v | _ => .none) s')
        (fun e s' => wpAny (model prog w) (A.deeper (envOf qual scope L' f cdv)) (leaving (envOf qual scope L' f cdv) e) (fun _ s'' => R (.error e) s'') (fun e' s'' => R (.error e') s'') s')
        { s with heap := h₁, toks := s.toks + binds.length })
    (hco : scope.isCoroutine = false) (hgen : scope.isGenerator = false) (hk : scope.kind = .function)
    (hcell : ∀ x ∈ scope.names, x.2 ≠ .cell) : codeAny (model prog w) A (.call (.ref f) args) R s := by
  have hlim := T.nolimit
  have ho' := (X₀.keeps F.keep) _ _ ho
  have hcd' := codeRec_of (X₀.keeps F.keep) hcd
  obtain ⟨FG, BG, st, lv⟩ := groundX (R := R) B F N hA hf hke
  refine codeAny_call_def (fd := fnX name qual params body scope [] dV kV doc pm an cdv ct) (body := body) (binds := binds) hroom ho' rfl (hlim.keeps F.keep) hcd' rfl hbind hcell hloc (fun h₁ hns hk₁ => ?_) hco hgen hk
  refine wpAny_mono (h _ s.heap.objs.size h₁ FG ⟨hns, fun b o e => hk₁ b o (of_hideAll _ e), Nat.le_of_eq (hideAll_size _ _)⟩
    (fun p hp => ⟨hk₁ _ _ (N p hp).1, Nat.ne_of_lt (Heap.lt_size (N p hp).1), hideAll_none _ (List.mem_map_of_mem hp)⟩) BG (X₀.keeps st) (T.keeps st) (fun b o e hn => hideAll_get _ e hn)) (fun fl s' hl => lv _ _ ?_) fun _ _ y => y
  obtain ⟨L', m', news', F', N', k⟩ := hl
  exact ⟨L', m', news', F', N', fun a b => k a b F'.keep⟩
theorem news_keep {h h' : Heap} (N : News h₀ L h news) (hk : ∀ b o, h.get? b = some o → h'.get? b = some o) : News h₀ L h' news := fun q hq => ⟨hk _ _ (N q hq).1, (N q hq).2⟩
/-- the whole stays: what stood outside, and the ledger's own entries -/
theorem all_stays {h h' g : Heap} {news' : List (Addr × Obj)} (N : News h₀ L h news) (N' : News h₀ L h' news') (hs : ∀ q ∈ news, q ∈ news') (h1 : ∀ b o, h.get? b = some o → b ∉ news.map (·.1) → g.get? b = some o) (h2 : ∀ b o, g.get? b = some o → h'.get? b = some o) :
    ∀ b o, h.get? b = some o → h'.get? b = some o := by
  intro b o e
  by_cases hb : b ∈ news.map (·.1)
  · obtain ⟨q, hq, rfl⟩ := List.mem_map.mp hb
    have := (N q hq).1
    rw [e] at this
    cases this
    exact (N' q (hs q hq)).1
  · exact h2 b o (h1 b o e hb)
end

local macro_rules | `(tactic| walk_at "my enterG") => `(tactic| (refine' code_defG ?k1 ?k2 ?k3 ?k4 ?k5 ?kA ?kF ?kK ?k6 ?k7 ?k8 ?k9 ?kB ?_ ?c2 ?c3 ?c4 ?c5; (case kA => exact rfl); (case kF => exact rfl); (case kK => assumption); (case k1 => k_asm); (case k2 => k_asm); (case k3 => k_asm); (case k4 => k_asm); (case k5 => k_asm); (case k6 => k_is); (case k7 => k_is); (case k8 => ktr_room); (case k9 => first | exact BindsTo.of_eq rfl | exact binds_K (by k_in) rfl (by k_is) rfl rfl rfl); (case c5 => decide); (case kB => exact locs rfl); (case c2 => exact rfl); (case c3 => exact rfl); (case c4 => exact rfl); k_whole; intro g' L' h' FG' F' N' B' X' T' hG'; (try dsimp only); (try k_lift B'); (try k_fold)))

abbrev tupK (its : Array Value) (k : Nat) : Obj := { cls := .type "tuple", data := .seq its k }
def TupSrc (prog : Program) (w : World) (A : Around) (h₀ : Heap) (L : Addr) (m : Str → Option Value) (env : Env) (elt : PySem.Expr) (x : Str) (scope : Scope) (cl : List (Str × Addr)) (Fin : Shared → List Value → List (Addr × Obj) → Prop) (xv : Value) (s₁ : Shared) : Prop :=
  ∃ ax its k news, xv = .ref ax ∧ A.handled = none ∧ Fr h₀ L s₁.heap m ∧ News h₀ L s₁.heap news ∧ (ax, tupK its k) ∈ news ∧ its.size ≤ sizeLine ∧
    ∀ s₂ : Shared, (∃ h, s₂ = { s₁ with heap := h }) → LCg.CompRest prog w A h₀ L m env elt x scope cl s₂ (fun nw => (ax, tupK its k) ∈ nw) (fun i v => its[i]? = some v) (Fin s₂) its.size 0 [] news
/-- a list comprehension over a tuple of the ledger -/
theorem comp_tup {prog : Program} {w : World} {A : Around} {E : Value → Shared → Prop} {s : Shared} {h₀ : Heap} {L : Addr} {m : Str → Option Value} {env : Env} {elt iter : PySem.Expr} {x : Str} {px : Pos} {scope : Scope} {cl : List (Str × Addr)} {pos : Pos} {Q : Value → Shared → Prop}
    (_F₀ : Fr h₀ L s.heap m) (hclos : closureFor scope env = pure cl) (hcell : ∀ y ∈ scope.names, y.2 ≠ .cell) (hkind : scope.kind = .function)
    (hnames : ∀ y ∈ scope.names, y.2 = .local → scope.names.lookup y.1 = some .local) (hx : scope.names.lookup x = some .local)
    (h : wpAny (model prog w) A (eval iter env) (TupSrc prog w A h₀ L m env elt x scope cl (fun s₂ => LCg.FinE h₀ L m s₂ Q)) E s)
    (hs : ∀ x, foldedSetIterable iter env x = pure x := by intro _; rfl) :
    wpAny (model prog w) A (eval (.ListComp elt [⟨.Name x px, iter, [], 0⟩] scope pos) env) Q E s := by
  rw [eval_ListComp]
  refine wpAny_comprehension_free (use := none) rfl hs hclos hkind hnames (wpAny_mono h (fun xv s₁ h₁ => ?_) fun _ _ e => e)
  obtain ⟨ax, its, k, news, rfl, hh, F, N, hm, hsz, R⟩ := h₁
  have ho := (N _ hm).1
  have hl : s₁.heap.IsTuple ax its := ⟨_, ho, rfl, k, rfl⟩
  have hlt : ax < s₁.heap.objs.size := Heap.lt_size ho
  have up : ∀ b o, s₁.heap.get? b = some o → (s₁.heap.push { cls := .type "tuple_iterator", data := .fields #[.ref ax, .int 0 0] }).get? b = some o := fun b o e => Heap.get?_push_of_some _ e
  refine wpAny_pyIter_tuple hl ?_
  refine LCg.block_U (Walks.tuple hh s₁.heap.objs.size ax (Nat.ne_of_lt hlt) its) hsz (fun i h st => by obtain ⟨o, e, _⟩ := st.1; exact ⟨o, e⟩) ?_ hcell hkind hx ⟨⟨_, Heap.get?_push_size _ rfl, rfl, rfl⟩, hl.at (up ax)⟩ (fun b hb => ?_)
    (F.keeps up) (N.grown up) (Nat.ne_of_lt F.ns.lt) (next_is_new F) (fun p hp => Nat.ne_of_lt (Heap.lt_size (N p hp).1)) hm (R _ ⟨_, rfl⟩) ?_
  · intro i h h' o nw st e e' _ Nw S
    refine ⟨?_, ⟨_, (Nw _ S).1, rfl, k, rfl⟩⟩
    obtain ⟨o', q, r⟩ := st.1
    rw [e] at q; cases q
    exact ⟨o, e', r⟩
  · rw [Heap.size_push]
    rcases List.mem_cons.mp hb with rfl | hb
    · exact Nat.lt_succ_self _
    · rw [List.mem_singleton.mp hb]; exact Nat.lt_succ_of_lt hlt
  · intro D C h tk m' ys news' F' N' o1 hn hC₀ hD₀ hCL hDL hCD offC fin
    refine ⟨m', hn, fun h'' hs'' => fin D h'' tk (F'.change hs'' hCL hC₀) (fun p hp => ?_) o1⟩
    refine ⟨hs''.extBut _ _ ?_ (N' p hp).1, (N' p hp).2⟩
    rcases List.mem_cons.mp hp with rfl | hp
    · exact Ne.symm hCD
    · exact offC p hp

local macro_rules | `(tactic| lcg_src) => `(tactic| ((try dsimp only); k_mem))
local macro_rules | `(tactic| walk_at "eval ListComp") => `(tactic| (k_here; lcg_look; k_dflt (refine' comp_tup ?F0 ?a ?b ?c ?d ?e ?_; (case F0 => k_asm); (case a => rfl); (case b => decide); (case c => rfl); (case d => decide); (case e => rfl))))
local macro_rules | `(tactic| walk_at "TupSrc") => `(tactic| (k_here; k_dflt (refine' ⟨_, _, _, _, rfl, ?a, ?b, ?c, ?d, ?e, ?_⟩; (case a => rfl); (case b => k_asm); (case c => k_asm); (case d => k_mem); (case e => exact Nat.le_of_ble_eq_true rfl)); rintro s9 ⟨g9, e9⟩; subst e9; lcg_lit))

set_option maxHeartbeats 4000000 in
theorem expiry_spec {w : World} {p : Program} {loose : List Str} {mean : ExcName → Option Value} {mg mb : Str → Option Value} {dp un : Nat} {gd : Option (List Code)} {cn : Str} {cs : Scope} {a : Addr} {ccd : Value} {cl : List (Str × Addr)} {outer : List Env} {A₀ : Around} {base h₀ : Heap} {L : Addr} {m : Str → Option Value} {s : Shared} {Q E : Value → Shared → Prop} {news : List (Addr × Obj)} {x3 d3 : Addr} {t5 t6 t7 t8 tm tl : Tok} {most len : Int} (B : Below A₀ base outer h₀) (F : Fr h₀ L s.heap m) (X : (Mine.hd.heap_39 w.params).In h₀) (N : News h₀ L s.heap news) (T : Top p loose mean mg mb h₀) (hk : cs.kind = .function) (hd : dp + 30 < recursionLimit) (hu : un + 200 < cLine) (i1 : (x3, instObj 423 d3) ∈ news) (i2 : (d3, dictOf [⟨PySem.PyData.keyHash w.params (Str.ofString "namespace"), .str (Str.ofString "namespace") t5, .str (Str.ofString "LIMITER") t8⟩, ⟨PySem.PyData.keyHash w.params (Str.ofString "amount"), .str (Str.ofString "amount") t6, .int most tm⟩, ⟨PySem.PyData.keyHash w.params (Str.ofString "multiples"), .str (Str.ofString "multiples") t7, .int len tl⟩] 3) ∈ news) 
    (ret : ∀ t h' tk', Fr h₀ L h' m → News h₀ L h' news → Q (.int len t) { s with heap := h', toks := tk' }) :
    wpAny (model PG w) (ktrTop dp un gd cn cs L a ccd cl outer) (call (.ref 373)  [.ref x3]) Q E s := by
  w_on
  revert X; (have hR : PySem.Challenge.rw_ji0057_01.name = PySem.Challenge.rw_ji0057_01.name := rfl); revert hR; k_fill; intro hR X; clear hR
  refine wpAny_call ?_
  k_dflt (walk_at "my enter")
  w_strict (k_steps; (all_goals (rw [Int.one_mul]; exact ret _ _ _ (by k_asm) (by k_asm))))

-- an item's premises
local macro_rules | `(tactic| walk_at "call ref") => `(tactic| (k_here; (with_reducible show wpAny _ _ (call (Value.ref 373) _ _) _ _ _); k_dflt ((show wpAny _ _ (call (Value.ref 373) [Value.ref _]) _ _ _); refine' expiry_spec ?B ?F ?X ?N ?T ?hk ?hd ?hu ?i1 ?i2 ?_; walk_at "use common"; (case i1 => k_mem); (case i2 => k_mem)); intro t9 h9 tk9 F' N'; (try dsimp only)))

theorem text_len {n : Int} (h : n.natAbs < 1000) : (Str.ofString (toString n)).length ≤ 4 := by
  have e := int_text_length_le10 (a := n) (k := 3) (by decide) (by omega)
  rw [PySem.ofString_length]
  exact e
theorem key_weight {a b : Int} (ha : a.natAbs < 1000) (hb : b.natAbs < 1000) : ((([Str.ofString "ann", Str.ofString (toString a), Str.ofString (toString b), Str.ofString "second"] : List Str).map (·.length)).sum + ([Str.ofString "ann", Str.ofString (toString a), Str.ofString (toString b), Str.ofString "second"] : List Str).length) ≤ 1048576 := by
  have h1 := text_len ha
  have h2 := text_len hb
  have h3 : (Str.ofString "ann").length = 3 := by decide
  have h4 : (Str.ofString "second").length = 6 := by decide
  simp only [List.map_cons, List.map_nil, List.sum_cons, List.sum_nil, List.length_cons, List.length_nil, h3, h4]
  omega
theorem join_short {a b : Int} (ha : a.natAbs < 1000) (hb : b.natAbs < 1000) : (Txt.join (Str.ofString "/") [Str.ofString "ann", Str.ofString (toString a), Str.ofString (toString b), Str.ofString "second"]).length ≤ 60 := by
  show (PySem.Builtin.Str.glued (Str.ofString "/") _).length ≤ 60
  rw [StrLaws.glued_eq_join]
  refine Nat.le_trans (StrLaws.join_length_le _ _) ?_
  have h1 := text_len ha
  have h2 := text_len hb
  have h3 : (Str.ofString "ann").length = 3 := by decide
  have h4 : (Str.ofString "second").length = 6 := by decide
  have h5 : (Str.ofString "/").length = 1 := by decide
  simp only [List.map_cons, List.map_nil, List.sum_cons, List.sum_nil, List.length_cons, List.length_nil, h3, h4, h5]
  omega
theorem join4 {prog : Program} {w : World} {A : Around} {E : Value → Shared → Prop} {s : Shared} {t : Tok} {Q : Value → Shared → Prop} {D : Addr} {items : Array Value} {a b : Int} (hl : s.heap.IsList D items)
    (hi : StrsAre items.toList [Str.ofString "ann", Str.ofString (toString a), Str.ofString (toString b), Str.ofString "second"]) (ha : a.natAbs < 1000) (hb : b.natAbs < 1000)
    (h : ∀ jn, Txt.join (Str.ofString "/") [Str.ofString "ann", Str.ofString (toString a), Str.ofString (toString b), Str.ofString "second"] = jn → jn.length ≤ 60 → ∀ t' k, Q (.str jn t') { s with toks := k }) :
    wpAny (model prog w) A (call (.builtin "str.join") [.str (Str.ofString "/") t, .ref D]) Q E s :=
  join_listW hl hi (by decide +kernel) (key_weight ha hb) (h _ rfl (join_short ha hb))
local macro_rules | `(tactic| walk_at "call builtin:str.join") => `(tactic| (k_here; k_dflt ((show wpAny _ _ (call (Value.builtin "str.join") [Value.str _ _, Value.ref _]) _ _ _); refine' join4 (News.isList ?N ?m) ?hi ?ha ?hb ?_; (case N => k_asm); (case m => k_mem); (case hi => (repeat constructor)); (case ha => omega); (case hb => omega)); intro jn9 hjn9 hl9 _ _))
theorem line60 {x : Str} (h : x.length ≤ 60) : x.length ≤ sizeLine := Nat.le_trans h (by rw [sizeLine_eq]; omega)
theorem key_len {jn : Str} (h : jn.length ≤ 60) : (Str.empty ++ Str.ofString "LIMITER" ++ Str.ofString "/" ++ jn).length ≤ 100 := by
  simp only [Str.length_append]
  have h0 : Str.empty.length = 0 := rfl
  have h1 : (Str.ofString "LIMITER").length = 7 := by decide
  have h2 : (Str.ofString "/").length = 1 := by decide
  omega
theorem key_line {jn : Str} (h : jn.length ≤ 60) : (Str.empty ++ Str.ofString "LIMITER" ++ Str.ofString "/" ++ jn).length ≤ sizeLine :=
  Nat.le_trans (key_len h) (by rw [sizeLine_eq]; omega)
def keyOf (most len : Int) : Str := Str.empty ++ Str.ofString "LIMITER" ++ Str.ofString "/" ++ Txt.join (Str.ofString "/") [Str.ofString "ann", Str.ofString (toString most), Str.ofString (toString len), Str.ofString "second"]
theorem keyOf_len {most len : Int} (m0 : 1 ≤ most) (m9 : most ≤ 9) (l0 : 2 ≤ len) (l9 : len ≤ 8) : (keyOf most len).length ≤ 100 := key_len (join_short (by omega) (by omega))
local macro_rules | `(tactic| walk_at "formatField str") => `(tactic| (k_here; k_dflt (refine formatField_str ?_ (line60 (by assumption))); intro _ _))
local macro_rules | `(tactic| walk_at "joinParts") => `(tactic| (k_here; (first | (with_reducible show wpAny _ _ (joinParts _ []) _ _ _) | (with_reducible show wpAny _ _ (joinParts _ (evalEach [] _)) _ _ _)); k_dflt (refine joinParts_nil ?_ (key_line (by assumption)))))
set_option maxHeartbeats 4000000 in
theorem key_spec {w : World} {p : Program} {loose : List Str} {mean : ExcName → Option Value} {mg mb : Str → Option Value} {dp un : Nat} {gd : Option (List Code)} {cn : Str} {cs : Scope} {a : Addr} {ccd : Value} {cl : List (Str × Addr)} {outer : List Env} {A₀ : Around} {base h₀ : Heap} {L : Addr} {m : Str → Option Value} {s : Shared} {Q E : Value → Shared → Prop} {news : List (Addr × Obj)} {x3 d3 : Addr} {t5 t6 t7 t8 tm tl : Tok} {most len : Int} {nm : Addr} {tA : Tok} {n : Nat} (hnews : news = [(nm, ({ cls := .type "tuple", data := .seq [.str (Str.ofString "ann") tA].toArray n } : Obj)), (x3, instObj 423 d3), (d3, dictOf [⟨PySem.PyData.keyHash w.params (Str.ofString "namespace"), .str (Str.ofString "namespace") t5, .str (Str.ofString "LIMITER") t8⟩, ⟨PySem.PyData.keyHash w.params (Str.ofString "amount"), .str (Str.ofString "amount") t6, .int most tm⟩, ⟨PySem.PyData.keyHash w.params (Str.ofString "multiples"), .str (Str.ofString "multiples") t7, .int len tl⟩] 3)])
    (B : Below A₀ base outer h₀) (F : Fr h₀ L s.heap m) (X : (Mine.hd.heap_39 w.params).In h₀) (N : News h₀ L s.heap news) (T : Top p loose mean mg mb h₀) (hk : cs.kind = .function) (hd : dp + 30 < recursionLimit) (hu : un + 300 < cLine) (m0 : 1 ≤ most) (m9 : most ≤ 9) (l0 : 2 ≤ len) (l9 : len ≤ 8)
    (ret : ∀ t h' tk', Fr h₀ L h' m → (∀ b o, s.heap.get? b = some o → h'.get? b = some o) → Q (.str (keyOf most len) t) { s with heap := h', toks := tk' }) :
    wpAny (model PG w) (ktrTop dp un gd cn cs L a ccd cl outer) (call (.ref 380)  [.ref x3, .ref nm]) Q E s := by
  subst hnews
  w_on
  revert X; (have hR : PySem.Challenge.rw_ji0057_01.name = PySem.Challenge.rw_ji0057_01.name := rfl); revert hR; k_fill; intro hR X; clear hR
  refine wpAny_call ?_
  k_dflt (walk_at "my enterG")
  w_strict (k_steps; (all_goals first | exact key_line (by assumption) | (subst_vars; exact ret _ _ _ (by k_asm) (all_stays N (by k_asm) (by lcg_sub) (by assumption) (by assumption)))))

local macro_rules | `(tactic| walk_at "call ref") => `(tactic| (k_here; (with_reducible show wpAny _ _ (call (Value.ref 380) _ _) _ _ _); k_dflt ((show wpAny _ _ (call (Value.ref 380) [Value.ref _, Value.ref _]) _ _ _); refine' key_spec rfl ?B ?F ?X ?N ?T ?hk ?hd ?hu ?m0 ?m9 ?l0 ?l9 ?_; walk_at "use commonZ"; (case N => (refine cb_drop (by k_asm) ?_; lcg_sub)); (case m0 => assumption); (case m9 => assumption); (case l0 => assumption); (case l9 => assumption)); intro t9 h9 tk9 F' hk9; (rename News _ _ _ _ => N9); (have N' := news_keep N9 hk9); (try dsimp only)))

set_option maxHeartbeats 4000000 in
theorem hit_spec {w : World} {p : Program} {loose : List Str} {mean : ExcName → Option Value} {mg mb : Str → Option Value} {dp un : Nat} {gd : Option (List Code)} {cn : Str} {cs : Scope} {a : Addr} {ccd : Value} {cl : List (Str × Addr)} {outer : List Env} {A₀ : Around} {base h₀ : Heap} {L : Addr} {m : Str → Option Value} {s : Shared} {Q E : Value → Shared → Prop} {news : List (Addr × Obj)} {x1 d1 ds de dv f cell nl cq : Addr} {fo co oq os oe : Obj} {t1 t2 t3 t4 tn : Tok} {now : Int} {kvs kve : List (Str × Value)} {c1 c2 : List (Str × Int)} {x3 d3 : Addr} {t5 t6 t7 t8 tm tl : Tok} {most len : Int} {x2 d2 : Addr} {u1 : Tok} {nm : Addr} {tA ta : Tok} {n : Nat} {amt : Int} {rest : List (Addr × Obj)} (hnews : news = (ds, os) :: (de, oe) :: rest) (r1 : ∀ p ∈ rest, p.1 ≠ ds) (r2 : ∀ p ∈ rest, p.1 ≠ de) (r3 : @Ne Nat ds de)
    (B : Below A₀ base outer h₀) (F : Fr h₀ L s.heap m) (X : (Mine.hd.heap_39 w.params).In h₀) (N : News h₀ L s.heap news) (T : Top p loose mean mg mb h₀) (hk : cs.kind = .function) (hd : dp + 40 < recursionLimit) (hu : un + 500 < cLine) (hC : ClockSpec w p loose mean mg mb f cell nl cq fo co oq) (n1 : (x1, instObj 568 d1) ∈ rest) (n2 : (d1, dictOf [⟨PySem.PyData.keyHash w.params (Str.ofString "clock"), .str (Str.ofString "clock") t1, .ref f⟩, ⟨PySem.PyData.keyHash w.params (Str.ofString "storage"), .str (Str.ofString "storage") t2, .ref ds⟩, ⟨PySem.PyData.keyHash w.params (Str.ofString "expirations"), .str (Str.ofString "expirations") t3, .ref de⟩, ⟨PySem.PyData.keyHash w.params (Str.ofString "events"), .str (Str.ofString "events") t4, .ref dv⟩] 4) ∈ rest) (n5 : (f, fo) ∈ rest) (n6 : (cell, co) ∈ rest) (n7 : (nl, listOf #[.int now tn] 0) ∈ rest) (n8 : (cq, oq) ∈ rest) (ls : (ds == sysModules) = false) (le : (de == sysModules) = false) (hs : os.IsDictOf (strKind PG w) kvs) (fs : FlatPairs PyData.str kvs (kdpD c1)) (he : oe.IsDictOf (strKind PG w) kve) (fe : FlatPairs PyData.str kve (kdpD c2)) (i1 : (x3, instObj 423 d3) ∈ rest) (i2 : (d3, dictOf [⟨PySem.PyData.keyHash w.params (Str.ofString "namespace"), .str (Str.ofString "namespace") t5, .str (Str.ofString "LIMITER") t8⟩, ⟨PySem.PyData.keyHash w.params (Str.ofString "amount"), .str (Str.ofString "amount") t6, .int most tm⟩, ⟨PySem.PyData.keyHash w.params (Str.ofString "multiples"), .str (Str.ofString "multiples") t7, .int len tl⟩] 3) ∈ rest) (m1 : (x2, instObj 218 d2) ∈ rest) (m2 : (d2, dictOf [⟨PySem.PyData.keyHash w.params (Str.ofString "storage"), .str (Str.ofString "storage") u1, .ref x1⟩] 1) ∈ rest) (i3 : (nm, tupK [.str (Str.ofString "ann") tA].toArray n) ∈ rest)
    (ok1 : KeyOk c1 c2 (kx (keyOf most len) (Int.fdiv (now - len) len)) now) (ok2 : KeyOk c1 c2 (kx (keyOf most len) (Int.fdiv now len)) now) (z1 : c1.length ≤ 1000) (z2 : c2.length ≤ 1000)
    (h0 : 1000000 ≤ now) (h9 : now ≤ 2000000000) (m0 : 1 ≤ most) (m9 : most ≤ 9) (l0 : 2 ≤ len) (l9 : len ≤ 8)
    (p0 : 0 ≤ kdpLook c1 (kx (keyOf most len) (Int.fdiv (now - len) len)) 0) (p9 : kdpLook c1 (kx (keyOf most len) (Int.fdiv (now - len) len)) 0 ≤ 9) (q0 : 0 ≤ kdpLook c1 (kx (keyOf most len) (Int.fdiv now len)) 0) (q9 : kdpLook c1 (kx (keyOf most len) (Int.fdiv now len)) 0 ≤ 9)
    (retF : (most < amt ∨ most < weighed c1 (keyOf most len) len now + amt) → ∀ h' tk', Fr h₀ L h' m → News h₀ L h' ((ds, os) :: (de, oe) :: rest) → Q (.bool false) { s with heap := h', toks := tk' })
    (retT : amt ≤ most → weighed c1 (keyOf most len) len now + amt ≤ most → ∀ os' oe' kvs' kve' c2' h' tk', os'.IsDictOf (strKind PG w) kvs' → FlatPairs PyData.str kvs' (kdpD (kdpPut c1 (kx (keyOf most len) (Int.fdiv now len)) (kdpLook c1 (kx (keyOf most len) (Int.fdiv now len)) 0 + amt))) → oe'.IsDictOf (strKind PG w) kve' → FlatPairs PyData.str kve' (kdpD c2') →
      c2' = (if kdpLook c1 (kx (keyOf most len) (Int.fdiv now len)) 0 = 0 then kdpPut c2 (kx (keyOf most len) (Int.fdiv now len)) (now + 2 * len) else c2) → Fr h₀ L h' m → News h₀ L h' ((ds, os') :: (de, oe') :: rest) → Q (.bool true) { s with heap := h', toks := tk' }) :
    wpAny (model PG w) (ktrTop dp un gd cn cs L a ccd cl outer) (call (.ref 188)  [.ref x2, .ref x3, .ref nm, .int amt ta]) Q E s := by
  subst hnews
  have hlen := keyOf_len m0 m9 l0 l9
  w_on
  revert X; (have hR : PySem.Challenge.rw_ji0057_01.name = PySem.Challenge.rw_ji0057_01.name := rfl); revert hR; k_fill; intro hR X; clear hR
  refine wpAny_call ?_
  k_dflt (walk_at "my enter")
  w_strict (k_steps; (all_goals first
    | (refine' retF ?e1 _ _ ?e2 ?e3; (case e2 => k_asm); (case e3 => k_asm); (case e1 => assumption))
    | (refine' retT ?e8 ?e9 _ _ _ _ _ _ _ ?e1 ?e2 ?e3 ?e4 ?e5 ?e6 ?e7; (case e6 => k_asm); (case e7 => k_asm); (case e1 => assumption); (case e2 => assumption); (case e3 => assumption); (case e4 => assumption); (case e5 => assumption); (case e8 => assumption); (case e9 => assumption))))


set_option maxHeartbeats 4000000 in
theorem test_spec {w : World} {p : Program} {loose : List Str} {mean : ExcName → Option Value} {mg mb : Str → Option Value} {dp un : Nat} {gd : Option (List Code)} {cn : Str} {cs : Scope} {a : Addr} {ccd : Value} {cl : List (Str × Addr)} {outer : List Env} {A₀ : Around} {base h₀ : Heap} {L : Addr} {m : Str → Option Value} {s : Shared} {Q E : Value → Shared → Prop} {news : List (Addr × Obj)} {x1 d1 ds de dv f cell nl cq : Addr} {fo co oq os oe : Obj} {t1 t2 t3 t4 tn : Tok} {now : Int} {kvs kve : List (Str × Value)} {c1 c2 : List (Str × Int)} {x3 d3 : Addr} {t5 t6 t7 t8 tm tl : Tok} {most len : Int} {x2 d2 : Addr} {u1 : Tok} {nm : Addr} {tA ta : Tok} {n : Nat} {cost : Int}
    (B : Below A₀ base outer h₀) (F : Fr h₀ L s.heap m) (X : (Mine.hd.heap_39 w.params).In h₀) (N : News h₀ L s.heap news) (T : Top p loose mean mg mb h₀) (hk : cs.kind = .function) (hd : dp + 40 < recursionLimit) (hu : un + 500 < cLine) (hC : ClockSpec w p loose mean mg mb f cell nl cq fo co oq) (n1 : (x1, instObj 568 d1) ∈ news) (n2 : (d1, dictOf [⟨PySem.PyData.keyHash w.params (Str.ofString "clock"), .str (Str.ofString "clock") t1, .ref f⟩, ⟨PySem.PyData.keyHash w.params (Str.ofString "storage"), .str (Str.ofString "storage") t2, .ref ds⟩, ⟨PySem.PyData.keyHash w.params (Str.ofString "expirations"), .str (Str.ofString "expirations") t3, .ref de⟩, ⟨PySem.PyData.keyHash w.params (Str.ofString "events"), .str (Str.ofString "events") t4, .ref dv⟩] 4) ∈ news) (n5 : (f, fo) ∈ news) (n6 : (cell, co) ∈ news) (n7 : (nl, listOf #[.int now tn] 0) ∈ news) (n8 : (cq, oq) ∈ news) (ls : (ds == sysModules) = false) (le : (de == sysModules) = false) (hs : os.IsDictOf (strKind PG w) kvs) (fs : FlatPairs PyData.str kvs (kdpD c1)) (he : oe.IsDictOf (strKind PG w) kve) (fe : FlatPairs PyData.str kve (kdpD c2)) (n3 : (ds, os) ∈ news) (n4 : (de, oe) ∈ news) (i1 : (x3, instObj 423 d3) ∈ news) (i2 : (d3, dictOf [⟨PySem.PyData.keyHash w.params (Str.ofString "namespace"), .str (Str.ofString "namespace") t5, .str (Str.ofString "LIMITER") t8⟩, ⟨PySem.PyData.keyHash w.params (Str.ofString "amount"), .str (Str.ofString "amount") t6, .int most tm⟩, ⟨PySem.PyData.keyHash w.params (Str.ofString "multiples"), .str (Str.ofString "multiples") t7, .int len tl⟩] 3) ∈ news) (m1 : (x2, instObj 218 d2) ∈ news) (m2 : (d2, dictOf [⟨PySem.PyData.keyHash w.params (Str.ofString "storage"), .str (Str.ofString "storage") u1, .ref x1⟩] 1) ∈ news) (i3 : (nm, tupK [.str (Str.ofString "ann") tA].toArray n) ∈ news)
    (ok1 : KeyOk c1 c2 (kx (keyOf most len) (Int.fdiv (now - len) len)) now) (ok2 : KeyOk c1 c2 (kx (keyOf most len) (Int.fdiv now len)) now)
    (h0 : 1000000 ≤ now) (h9 : now ≤ 2000000000) (m0 : 1 ≤ most) (m9 : most ≤ 9) (l0 : 2 ≤ len) (l9 : len ≤ 8)
    (p0 : 0 ≤ kdpLook c1 (kx (keyOf most len) (Int.fdiv (now - len) len)) 0) (p9 : kdpLook c1 (kx (keyOf most len) (Int.fdiv (now - len) len)) 0 ≤ 9) (q0 : 0 ≤ kdpLook c1 (kx (keyOf most len) (Int.fdiv now len)) 0) (q9 : kdpLook c1 (kx (keyOf most len) (Int.fdiv now len)) 0 ≤ 9)
    (g0 : -100 ≤ cost) (g9 : cost ≤ 100)
    (ret : ∀ h' tk', Fr h₀ L h' m → News h₀ L h' news → Q (.bool (decide (weighed c1 (keyOf most len) len now < most - cost + 1))) { s with heap := h', toks := tk' }) :
    wpAny (model PG w) (ktrTop dp un gd cn cs L a ccd cl outer) (call (.ref 197)  [.ref x2, .ref x3, .ref nm, .int cost ta]) Q E s := by
  have hlen := keyOf_len m0 m9 l0 l9
  w_on
  revert X; (have hR : PySem.Challenge.rw_ji0057_01.name = PySem.Challenge.rw_ji0057_01.name := rfl); revert hR; k_fill; intro hR X; clear hR
  refine wpAny_call ?_
  k_dflt (walk_at "my enter")
  w_strict (k_steps; (all_goals ((rename (_ = ttl _ _ _) => hpt); subst hpt; exact ret _ _ (by k_asm) (by walk_at "use sub"))))


theorem best_tuple : Builtin.Slots.bestBase [.type "tuple"] = pure (.type "tuple") := by first | rfl | kernel_rfl
theorem tn_split : splitId "tuple.__new__" = some ("tuple", "__new__") := by decide +kernel
theorem tn_kind : builtinKind "tuple.__new__" = some .builtinFn := by decide +kernel
theorem tn_init : typeLookup (.type "tuple") "__init__" = pure (some (.builtin "object.__init__")) := init_tuple_lookup
def tupSubIn (K : Frag) (C : Addr) : Bool := match K.lookup C with
  | some ⟨_, _, .cls cd, sl⟩ => !cd.hasDel && (sl.toList[4]?).join == some .none && cd.mro == [.ref C, .type "tuple", .type "object"] && cd.bases == [.type "tuple"] &&
      specialIn K (.ref C) "__call__" == some (some (.builtin "type.__call__")) && instIn K (.ref C) (.type "type") == some true && findIn K (.ref C) "__init__" == some (some (.builtin "object.__init__"))
  | _ => false
structure TupSub (M : Model) (h : Heap) (C : Addr) : Prop where
  obj : ∃ oc od cd sl, h.get? C = some ⟨oc, od, .cls cd, sl⟩ ∧ cd.hasDel = false ∧ cd.mro.isEmpty = false
  mro : Looks M h (mroOf (.ref C)) [.ref C, .type "tuple", .type "object"]
  made : Looks M h (Bind.madeBy (.ref C)) none
  base : Looks M h (Bind.staticBase (.ref C)) (.type "tuple")
  self : Looks M h (isSubtype (.ref C) (.ref C)) true
  top : Looks M h (isSubtype (.ref C) (.type "object")) true
  tup : Looks M h (isSubtype (.ref C) (.type "tuple")) true
  call : Looks M h (specialOf (.ref C) "__call__") (some (.builtin "type.__call__"))
  typ : Looks M h (isInstance (.ref C) (.type "type")) true
  init : Looks M h (typeLookup (.ref C) "__init__") (some (.builtin "object.__init__"))
theorem tupSub_of {K : Frag} {M : Model} {h : Heap} (X : K.In h) {C : Addr} (e : tupSubIn K C = true) : TupSub M h C := by
  unfold tupSubIn at e
  split at e
  · rename_i oc od cd sl ho
    simp only [Bool.and_eq_true, Bool.not_eq_true', beq_iff_eq] at e
    obtain ⟨⟨⟨⟨⟨⟨e1, e2⟩, e3⟩, e4⟩, e5⟩, e6⟩, e7⟩ := e
    have hc : clsIn K C = some cd := by unfold clsIn; rw [ho]
    have ne : cd.mro.isEmpty = false := by rw [e3]; rfl
    have hm : Looks M h (mroOf (.ref C)) [.ref C, .type "tuple", .type "object"] := e3 ▸ (looks_clsIn X hc).andThen .now
    have made : Looks M h (Bind.madeBy (.ref C)) none := by
      intro A Q E s k q
      unfold Bind.madeBy
      refine wpAny_bind (hm A _ E s k ?_)
      rw [List.forIn_cons]
      refine wpAny_bind (wpAny_bind (wpAny_bind (wpAny_bind (wpAny_loadPart (k _ _ (X _ _ ho)) (wpAny_pure ?_)))))
      dsimp only
      rw [← Array.getElem?_toList, e2]
      exact wpAny_pure (wpAny_pure (wpAny_pure q))
    have hs : ∀ b, (cd.mro.contains b) = true → Looks M h (isSubtype (.ref C) b) true := fun b hb => looks_mroIn X (by unfold mroIn; rw [hc, Option.bind_some, if_neg (by rw [ne]; decide), hb])
    refine ⟨⟨oc, od, cd, sl, X _ _ ho, e1, ne⟩, hm, made, ?_, hs _ (by rw [e3]; simp), hs _ (by rw [e3]; simp), hs _ (by rw [e3]; simp), looks_specialIn X e5, looks_instIn X e6, looks_findIn X e7⟩
    intro A Q E s k q
    unfold Bind.staticBase
    refine wpAny_bind (hm A _ E s k ?_)
    rw [List.forIn_cons]
    refine wpAny_bind (wpAny_bind (wpAny_bind (made A _ E s k ?_)))
    have hb : Looks M h (classData C) cd := looks_clsIn X hc
    dsimp only [Option.isSome]
    rw [if_neg Bool.false_ne_true]
    refine wpAny_bind (hb A _ E s k ?_)
    rw [e4, best_tuple]
    refine wpAny_bind (wpAny_pure (wpAny_pure ?_))
    dsimp only
    rw [List.forIn_cons]
    refine wpAny_bind (wpAny_bind ?_)
    dsimp only
    rw [F.called_tuple.made]
    exact wpAny_pure (wpAny_pure (wpAny_pure (wpAny_pure q)))
  · cases e

theorem tn_args (a b : Value) (sig : Manifest.Signature) (hs : Manifest.signature? "tuple.__new__" = some sig) : Bind.checkArgs "tuple.__new__" sig ⟨[a, b], []⟩ = pure () := by
  have : sig = ((Manifest.signature? "tuple.__new__").get (by decide +kernel)) := by simp only [hs, Option.get_some]
  subst this
  kernel_rfl
section
variable {prog : Program} {w : World} {A : Around} {K : Frag} {C : Addr} {R : Result → Shared → Prop} {h : Heap} {g : Array GenState} {d : Drawn} {t : Nat} {os : OsState}
theorem new_tup {l : Addr} {o : Obj} {items : Array Value} {n : Nat} (Y : TupSub (model prog w) h C) (ho : h.get? l = some o) (hc : o.cls = .type "tuple") (hd : o.data = .seq items n) (hsz : items.size ≤ sizeLine)
    (hq : ∀ h' : Heap, (∀ b o', h.get? b = some o' → h'.get? b = some o') → R (.ok (.ret (.ref (h'.objs.size + 1)))) ⟨(h'.push emptyDict).push ⟨.ref C, some h'.objs.size, .seq items 0, #[]⟩, g, d, t, os⟩) :
    codeAny (model prog w) A (.call (.builtin "tuple.__new__") ⟨[.ref C, .ref l], []⟩) R ⟨h, g, d, t, os⟩ := by
  obtain ⟨⟨oc, od, cd, sl, hC, e1, e4⟩, mro, made, base, self, top, tup, call, typ, init⟩ := Y
  have made2 := F.called_tuple.made
  refine codeAny_call_builtin_code (Code.quiet_builtin _ (by decide +kernel)) ?_
  simp only [checkBuiltinCall, tn_kind, tn_split]
  have here : Looks (model prog w) h (Bind.madeHere "tuple.__new__" (.ref C)) () := base.andThen (by rw [made2]; exact Looks.of_pure (by simp only [pure_bind, Option.map_some, bne_self_eq_false, Bool.false_eq_true, if_false]))
  have isT : Looks (model prog w) h (isType (.ref C)) true := by (unfold isType; exact (Looks.ld (part := some .none) hC).andThen .now)
  cases hsig : Manifest.signature? "tuple.__new__" with
  | none => exact absurd hsig (by decide +kernel)
  | some sig =>
    have hargs := tn_args (.ref C) (.ref l) sig hsig
    repeat (first | rw [hargs] | rw [made2] | simp only [bne_self_eq_false, Bool.false_eq_true, if_false, Bool.not_true, beq_self_eq_true, if_true] | lk)
    refine codeAny_builtin F.entry_tuple_new ?_
    unfold Builtin.«tuple.__new__»
    have hbi : (some (Value.builtin "object.__init__") == some (Value.builtin "object.__init__")) = true := by decide +kernel
    have ht : Looks (model prog w) h (Builtin.Tuple.tupleIsExact (.ref l)) true := by (unfold Builtin.Tuple.tupleIsExact; exact ((Looks.ld (part := none) ho).andThen .now).andThen (Looks.of_pure (by rw [hc]; rfl)))
    have hcol : ∀ {A' : Around} {E' : Value → Shared → Prop} {Q' : List Value → Shared → Prop}, (∀ h', (∀ b o', h.get? b = some o' → h'.get? b = some o') → Q' items.toList ⟨h', g, d, t, os⟩) → wpAny (model prog w) A' (collect (.ref l)) Q' E' ⟨h, g, d, t, os⟩ := fun hQ => wpAny_collect_seq l (.inr rfl) ho hc hd hQ hsz
    repeat ((fail_if_success (with_reducible show wpAny _ _ (collect _) _ _ _)); (first | rw [hbi] | simp only [bne_self_eq_false, Bool.false_eq_true, if_false, Bool.not_true, beq_self_eq_true, if_true] | lk))
    refine hcol fun h' k => ?_
    have hC' := Heap.get?_push_of_some (⟨.ref C, some h'.objs.size, .seq items 0, #[]⟩ : Obj) (Heap.get?_push_of_some emptyDict (k _ _ hC))
    show wpAny _ _ (alloc emptyDict >>= fun x => newObj (.ref C) (.seq items.toList.toArray) (some x) >>= fun v => ret v) _ _ _
    rw [Array.toArray_toList]
    refine wpAny_bind (wpAny_alloc (wpAny_bind ?_))
    unfold newObj newObjAsIs classHasDel
    dsimp only
    rw [if_neg (Nat.not_lt.mpr hsz)]
    refine wpAny_bind (wpAny_alloc (wpAny_bind (wpAny_bind (wpAny_load hC' (wpAny_pure ?_)))))
    rw [e1]
    refine wpAny_pure (wpAny_pure ?_)
    show R _ _
    rw [Heap.size_push]
    exact hq h' k
end
theorem oi_args3 (a b c : Value) : argsOk "object.__init__" ⟨[a, b, c], []⟩ := by unfold argsOk; kernel_rfl
section
variable {prog : Program} {w : World} {A A₀ : Around} {E : Value → Shared → Prop} {s : Shared} {K : Frag} {C L : Addr} {h₀ base : Heap} {m mg mb : Str → Option Value} {news : List (Addr × Obj)} {Q : Value → Shared → Prop}
theorem new_tupK {l : Addr} {vs : List Value} {n : Nat} (F : Fr h₀ L s.heap m) (X : K.In h₀) (N : News h₀ L s.heap news) (hm : tupSubIn K C = true) (hl : (l, tupK vs.toArray n) ∈ news) (hsz : vs.toArray.size ≤ sizeLine)
    (hq : ∀ x dx h', Fr h₀ L h' m → News h₀ L h' ((x, (⟨.ref C, some dx, .seq vs.toArray 0, #[]⟩ : Obj)) :: (dx, dictOf [] 0) :: news) → Q (.ref x) { s with heap := h' }) :
    wpAny (model prog w) A (call (.builtin "tuple.__new__") [.ref C, .ref l]) Q E s := by
  obtain ⟨hh, g, d, t, os⟩ := s
  refine wpAny_call (new_tup (tupSub_of (X.keeps F.keep) hm) (N _ hl).1 rfl rfl hsz fun h' k => ?_)
  have F' : Fr h₀ L h' m := F.after k
  have N' : News h₀ L h' news := news_keep N k
  have z := (N'.push F' emptyDict).push (F'.push _) (⟨.ref C, some h'.objs.size, .seq vs.toArray 0, #[]⟩ : Obj)
  rw [Heap.size_push] at z
  exact hq _ h'.objs.size _ ((F'.push _).push _) z
theorem make_tup {a b : Value} {fN : Addr} (X : K.In s.heap) (hm : tupSubIn K C = true)
    (hg : ∀ {A' : Around} {E' Q' : Value → Shared → Prop}, Q' (.ref fN) { s with toks := s.toks + 1 } → wpAny (model prog w) A' (getAttr (.ref C) "__new__") Q' E' s)
    (hq : wpAny (model prog w) (A.under (.builtin "type.__call__" ⟨[.ref C, a, b], []⟩)) (call (.ref fN) [.ref C, a, b]) (fun v s' => ∃ x ox od, v = .ref x ∧ InstAt s'.heap x ox C od ∧ K.In s'.heap ∧ Q (.ref x) s') E { s with toks := s.toks + 1 }) :
    wpAny (model prog w) A (call (.ref C) [a, b]) Q E s := by
  obtain ⟨h, g, d, t, os⟩ := s
  obtain ⟨⟨oc, od, cd, sl, hC, e1, e4⟩, mro, made, base, self, top, tup, call, typ, init⟩ := tupSub_of (M := model prog w) X hm
  refine wpAny_call (codeAny_of_tree ?_)
  show wpAny _ _ (callAny (.ref C) _) _ _ _
  refine nd_load hC ?_
  show wpAny _ _ (callAny.viaDunder (.ref C) _) _ _ _
  unfold callAny.viaDunder
  refine wpAny_bind (call.at ?_)
  dsimp only
  rw [tc_bind]
  refine wpAny_bind (wpAny_pure (wpAny_bind (wpAny_pure ?_)))
  refine wpAny_pure (a := Fin.again (.call (.builtin "type.__call__") ⟨[.ref C, a, b], []⟩)) (And.intro rfl ?_)
  refine codeAny_call_builtin_at (Code.quiet_builtin _ (by decide +kernel)) entry_typeCall (check_slot tc_kind tc_split typ (tc_args _ _ _) ?_)
  unfold Builtin.«type.__call__»
  repeat ((fail_if_success (with_reducible show wpAny _ _ (getAttr _ _ _) _ _ _)); (first | simp only [List.isEmpty_cons, Bool.false_eq_true, if_false] | lk))
  refine hg ?_
  refine wpAny_bind (wpAny_holding (wpAny_mono hq (fun v s' z => ?_) fun _ _ z => z))
  obtain ⟨x, ox, od', rfl, I, X', hQ⟩ := z
  obtain ⟨⟨oc', odd', cd', sl', hC', e1', e4'⟩, mro', made', base', self', top', tup', call', typ', init'⟩ := tupSub_of (M := model prog w) X' hm
  obtain ⟨h', g', d', t', os'⟩ := s'
  have t1 := I.type (M := model prog w)
  have b1 : Looks (model prog w) h' (bindSpecial (.builtin "object.__init__") (.ref x)) (.builtin "object.__init__", [.ref x]) := Looks.of_pure (oi_bind _)
  have i1 : Looks (model prog w) h' (isInstance (.ref x) (.ref C)) true := t1.andThen self'
  have i2 : Looks (model prog w) h' (isInstance (.ref x) (.type "object")) true := t1.andThen top'
  unfold callSpecial? specialOf
  repeat ((fail_if_success (with_reducible show wpAny _ _ (PySem.call _ _ _) _ _ _)); (first | simp only [Bool.not_true, Bool.false_eq_true, if_false] | lk))
  refine wpAny_call (codeAny_call_builtin oi_plain entry_oi (@check_slot (model prog w) _ _ _ "object.__init__" "object" "__init__" (.ref x) [a, b] [] _ oi_kind oi_split i2 (oi_args3 (.ref x) a b) ?_))
  unfold Builtin.«object.__init__»
  have q1 : (some (Value.builtin "object.__init__") != some (Value.builtin "object.__init__")) = false := by decide +kernel
  have q2 : ((none : Option String) != some "object.__new__") = true := by decide +kernel
  repeat (first | simp only [q1, q2, List.isEmpty_cons, Bool.not_true, Bool.not_false, Bool.true_or, Bool.false_or, Bool.or_true, Bool.false_eq_true, if_false, if_true] | lk)
  exact hQ
end


theorem tupSubIn_of {K : Frag} {C : Addr} {oc : Value} {od : Option Addr} {cd : ClassData} {sl : Array (Option Value)} (h0 : K.lookup C = some ⟨oc, od, .cls cd, sl⟩) (h1 : cd.hasDel = false) (h2 : (sl.toList[4]?).join = some .none)
    (h3 : cd.mro = [.ref C, .type "tuple", .type "object"]) (h4 : cd.bases = [.type "tuple"]) (h5 : specialIn K (.ref C) "__call__" = some (some (.builtin "type.__call__"))) (h6 : instIn K (.ref C) (.type "type") = some true)
    (h7 : findIn K (.ref C) "__init__" = some (some (.builtin "object.__init__"))) : tupSubIn K C = true := by
  unfold tupSubIn
  rw [h0]
  simp only [h1, h2, h3, h4, h5, h6, h7, beq_self_eq_true, Bool.not_false, Bool.and_self]
theorem tup132 {w : World} {h₀ : Heap} (X : (Mine.hd.heap_39 w.params).In h₀) : tupSubIn (Mine.hd.heap_39 w.params) 132 = true := by
  w_on
  revert X; (have hR : PySem.Challenge.rw_ji0057_01.name = PySem.Challenge.rw_ji0057_01.name := rfl); revert hR; k_fill; intro hR X; clear hR
  refine' tupSubIn_of ?h0 ?h1 ?h2 ?h3 ?h4 ?h5 ?h6 ?h7
  (case h0 => k_is)
  (case h1 => rfl)
  (case h2 => rfl)
  (case h3 => rfl)
  (case h4 => rfl)
  (case h5 => k_is)
  (case h6 => k_is)
  (case h7 => k_is)
local macro_rules | `(tactic| walk_at "getMethod type:tuple") => `(tactic| (k_here; refine' method_type ?F ?X ?m (by decide +kernel) ?e ?h ?_; (case F => k_asm); (case X => k_asm); (case m => exact meta_tupleM); (case e => k_dflt k_is); (case h => k_handed)))
abbrev statsObj (dx : Addr) (r v : Value) : Obj := ⟨.ref 132, some dx, .seq [r, v].toArray 0, #[]⟩
local macro_rules | `(tactic| walk_at "call builtin:tuple.__new__") => `(tactic| (k_here; k_dflt ((show wpAny _ _ (call (Value.builtin "tuple.__new__") [Value.ref _, Value.ref _]) _ _ _); refine' new_tupK ?F ?X ?N ?hm ?hl ?hs ?_; (case F => k_asm); (case X => first | k_asm | ktn_no "tn: X"); (case N => first | k_asm | ktn_no "tn: N"); (case hm => exact tup132 (by k_asm)); (case hl => first | k_mem | ktn_no "tn: hl"); (case hs => first | size_fits | ktn_no "tn: hs")); intro x9 dx9 h9 F' N'; (try dsimp only)))
set_option maxHeartbeats 4000000 in
theorem wfn_spec {w : World} {p : Program} {loose : List Str} {mean : ExcName → Option Value} {mg mb : Str → Option Value} {dp un : Nat} {gd : Option (List Code)} {cn : Str} {cs : Scope} {a : Addr} {ccd : Value} {cl : List (Str × Addr)} {outer : List Env} {A₀ : Around} {base h₀ : Heap} {L : Addr} {m : Str → Option Value} {s : Shared} {Q E : Value → Shared → Prop} {news : List (Addr × Obj)} {v0 v1 : Value} (B : Below A₀ base outer h₀) (F : Fr h₀ L s.heap m) (X : (Mine.hd.heap_39 w.params).In h₀) (N : News h₀ L s.heap news) (T : Top p loose mean mg mb h₀) (hk : cs.kind = .function) (hd : dp + 20 < recursionLimit) (hu : un + 100 < cLine)
    (ret : ∀ x dx h' tk', Fr h₀ L h' m → News h₀ L h' ((x, statsObj dx v0 v1) :: (dx, dictOf [] 0) :: news) → Q (.ref x) { s with heap := h', toks := tk' }) :
    wpAny (model PG w) (ktrTop dp un gd cn cs L a ccd cl outer) (call (.ref 82)  [.ref 132, v0, v1]) Q E s := by
  w_on
  revert X; (have hR : PySem.Challenge.rw_ji0057_01.name = PySem.Challenge.rw_ji0057_01.name := rfl); revert hR; k_fill; intro hR X; clear hR
  refine wpAny_call ?_
  k_dflt (walk_at "my enter")
  w_strict (k_steps; (all_goals exact ret _ _ _ _ (by k_asm) (by walk_at "use two")))
set_option maxHeartbeats 4000000 in
theorem wstats_spec {w : World} {p : Program} {loose : List Str} {mean : ExcName → Option Value} {mg mb : Str → Option Value} {dp un : Nat} {gd : Option (List Code)} {cn : Str} {cs : Scope} {a : Addr} {ccd : Value} {cl : List (Str × Addr)} {outer : List Env} {A₀ : Around} {base h₀ : Heap} {L : Addr} {m : Str → Option Value} {s : Shared} {Q E : Value → Shared → Prop} {news : List (Addr × Obj)} {v0 v1 : Value} (B : Below A₀ base outer h₀) (F : Fr h₀ L s.heap m) (X : (Mine.hd.heap_39 w.params).In h₀) (N : News h₀ L s.heap news) (T : Top p loose mean mg mb h₀) (hk : cs.kind = .function) (hd : dp + 30 < recursionLimit) (hu : un + 200 < cLine)
    (ret : ∀ x dx h' tk', Fr h₀ L h' m → News h₀ L h' ((x, statsObj dx v0 v1) :: (dx, dictOf [] 0) :: news) → Q (.ref x) { s with heap := h', toks := tk' }) :
    wpAny (model PG w) (ktrTop dp un gd cn cs L a ccd cl outer) (call (.ref 132)  [v0, v1]) Q E s := by
  w_on
  revert X; (have hR : PySem.Challenge.rw_ji0057_01.name = PySem.Challenge.rw_ji0057_01.name := rfl); revert hR; k_fill; intro hR X; clear hR
  have k3 : typeIn (Mine.hd.heap_39 w.params) (.ref 132) = some (.type "type") := by k_is
  have k5 : findCls (Mine.hd.heap_39 w.params) (.ref 132) (.type "type") "__new__" = some (.get (.builtin "staticmethod.__get__") (.ref 133) .none (.ref 132)) := by k_is
  have k6 : recIn (Mine.hd.heap_39 w.params) 133 "staticmethod" = some [.ref 82] := by k_is
  have k4 : readsIn (Mine.hd.heap_39 w.params) 132 (.type "type") = true := by k_is
  refine make_tup (fN := 82) (X.keeps F.keep) (tup132 X) (fun hq => cls_sm F X k3 k4 k5 k6 rfl hq) ?_
  refine wfn_spec (s := { s with toks := s.toks + 1 }) B F X N T hk ?hd ?hu ?_
  (case hd => show dp + 1 + 20 < recursionLimit; omega)
  (case hu => show un + 1 + 100 < cLine; omega)
  exact fun x dx h' tk' F' N' => ⟨x, statsObj dx v0 v1, some (dictOf [] 0), rfl, ⟨(N' _ List.mem_cons_self).1, rfl, rfl, (N' _ (List.mem_cons_of_mem _ List.mem_cons_self)).1⟩, X.keeps F'.keep, ret x dx h' tk' F' N'⟩

local macro_rules | `(tactic| walk_at "call ref") => `(tactic| (k_here; (with_reducible show wpAny _ _ (call (Value.ref 132) _ _) _ _ _); k_dflt ((show wpAny _ _ (call (Value.ref 132) [_, _]) _ _ _); refine' wstats_spec ?B ?F ?X ?N ?T ?hk ?hd ?hu ?_; walk_at "use common"); intro x9 dx9 h9 tk9 F' N'; (try dsimp only)))

set_option maxHeartbeats 4000000 in
theorem window_spec2 {w : World} {p : Program} {loose : List Str} {mean : ExcName → Option Value} {mg mb : Str → Option Value} {dp un : Nat} {gd : Option (List Code)} {cn : Str} {cs : Scope} {a : Addr} {ccd : Value} {cl : List (Str × Addr)} {outer : List Env} {A₀ : Around} {base h₀ : Heap} {L : Addr} {m : Str → Option Value} {s : Shared} {Q E : Value → Shared → Prop} {news : List (Addr × Obj)} {x1 d1 ds de dv f cell nl cq : Addr} {fo co oq os oe : Obj} {t1 t2 t3 t4 tn : Tok} {now : Int} {kvs kve : List (Str × Value)} {c1 c2 : List (Str × Int)} {key : Str} {tp te : Tok} {e : Int} (B : Below A₀ base outer h₀) (F : Fr h₀ L s.heap m) (X : (Mine.hd.heap_39 w.params).In h₀) (N : News h₀ L s.heap news) (T : Top p loose mean mg mb h₀) (hk : cs.kind = .function) (hd : dp + 16 < recursionLimit) (hu : un + 200 < cLine) (hC : ClockSpec w p loose mean mg mb f cell nl cq fo co oq) (n1 : (x1, instObj 568 d1) ∈ news) (n2 : (d1, dictOf [⟨PySem.PyData.keyHash w.params (Str.ofString "clock"), .str (Str.ofString "clock") t1, .ref f⟩, ⟨PySem.PyData.keyHash w.params (Str.ofString "storage"), .str (Str.ofString "storage") t2, .ref ds⟩, ⟨PySem.PyData.keyHash w.params (Str.ofString "expirations"), .str (Str.ofString "expirations") t3, .ref de⟩, ⟨PySem.PyData.keyHash w.params (Str.ofString "events"), .str (Str.ofString "events") t4, .ref dv⟩] 4) ∈ news) (n5 : (f, fo) ∈ news) (n6 : (cell, co) ∈ news) (n7 : (nl, listOf #[.int now tn] 0) ∈ news) (n8 : (cq, oq) ∈ news) (ls : (ds == sysModules) = false) (le : (de == sysModules) = false) (hs : os.IsDictOf (strKind PG w) kvs) (fs : FlatPairs PyData.str kvs (kdpD c1)) (he : oe.IsDictOf (strKind PG w) kve) (fe : FlatPairs PyData.str kve (kdpD c2)) (n3 : (ds, os) ∈ news) (n4 : (de, oe) ∈ news)
    (ok1 : KeyOk c1 c2 (kx key (Int.fdiv (now - e) e)) now) (ok2 : KeyOk c1 c2 (kx key (Int.fdiv now e)) now) (hlen : key.length ≤ 100) (h0 : 1000000 ≤ now) (h9 : now ≤ 2000000000) (e0 : 2 ≤ e) (e9 : e ≤ 8)
    (p0 : 0 ≤ kdpLook c1 (kx key (Int.fdiv (now - e) e)) 0) (p9 : kdpLook c1 (kx key (Int.fdiv (now - e) e)) 0 ≤ 9) (q0 : 0 ≤ kdpLook c1 (kx key (Int.fdiv now e)) 0) (q9 : kdpLook c1 (kx key (Int.fdiv now e)) 0 ≤ 9)
    (ret : ∀ P C cu pt q a1 a2 a3 a4 h' tk', kdpLook c1 (kx key (Int.fdiv (now - e) e)) 0 = P → kdpLook c1 (kx key (Int.fdiv now e)) 0 = C → cu = e - Int.fmod now e + e → pt = ttl P e now → 0 ≤ P → P ≤ 9 → 0 ≤ C → C ≤ 9 → 0 ≤ pt → pt ≤ 8 → 0 ≤ cu → cu ≤ 16 → Fr h₀ L h' m → News h₀ L h' ((q, tupObj [.int P a1, .int pt a2, .int C a3, .int cu a4]) :: news) → Q (.ref q) { s with heap := h', toks := tk' }) :
    wpAny (model PG w) (ktrTop dp un gd cn cs L a ccd cl outer) (call (.ref 544)  [.ref x1, .str key tp, .int e te]) Q E s :=
  window_spec B F X N T hk hd hu hC n1 n2 n5 n6 n7 n8 ls le hs fs he fe n3 n4 ok1 ok2 hlen h0 h9 e0 e9 fun pt q a1 a2 a3 a4 h' tk' hpt F' N' => ret _ _ _ pt q a1 a2 a3 a4 h' tk' rfl rfl rfl hpt p0 p9 q0 q9 (hpt ▸ ttl_lo _ _ _ e0) (hpt ▸ Int.le_trans (ttl_hi _ _ _ e0) e9) (by have := Int.fmod_lt_of_pos now (show 0 < e by omega); omega) (by have := Int.fmod_nonneg_of_pos now (show 0 < e by omega); omega) F' N'
local macro_rules | `(tactic| walk_at "call ref") => `(tactic| (k_here; (with_reducible show wpAny _ _ (call (Value.ref 544) _ _) _ _ _); k_dflt ((show wpAny _ _ (call (Value.ref 544) [Value.ref _, Value.str _ _, Value.int _ _]) _ _ _); refine' window_spec2 ?B ?F ?X ?N ?T ?hk ?hd ?hu ?hC ?n1 ?n2 ?n5 ?n6 ?n7 ?n8 ?ls ?le ?hs ?fs ?he ?fe ?n3 ?n4 ?ok1 ?ok2 ?hlen ?h0 ?h9 ?e0 ?e9 ?p0 ?p9 ?q0 ?q9 ?_; (case hC => assumption); walk_at "use common"; walk_at "use store"; (case ok1 => assumption); (case ok2 => assumption); (case hlen => assumption); (case h0 => assumption); (case h9 => assumption); (case e0 => assumption); (case e9 => assumption); (case p0 => assumption); (case p9 => assumption); (case q0 => assumption); (case q9 => assumption)); intro P9 C9 cu9 pt9 q9 ta9 tb9 tc9 td9 h9 tk9 hP9 hC9 hcu9 hpt9 b1 b2 b3 b4 b5 b6 b7 b8 F' N'; (try dsimp only)))
def leftOf (most w : Int) : Int := if most - w > 0 then most - w else 0
def told (now len P C cu pt : Int) : Int × Int :=
  if P = 0 then if C = 0 then (now, 1) else (now + Int.fmod cu len, 1)
  else if C = 0 then (now * P + Int.fmod (pt * P) len, P)
  else (now * P + (if Int.fmod cu len * P < Int.fmod (pt * P) len then Int.fmod cu len * P else Int.fmod (pt * P) len), P)
theorem told_00 {now len P C cu pt : Int} (h : P = 0) (h' : C = 0) : (now, 1) = told now len P C cu pt := by unfold told; rw [if_pos h, if_pos h']
theorem told_0c {now len P C cu pt : Int} (h : P = 0) (h' : C ≠ 0) : (now + Int.fmod cu len, 1) = told now len P C cu pt := by unfold told; rw [if_pos h, if_neg h']
theorem told_p0 {now len P C cu pt : Int} (h : P ≠ 0) (h' : C = 0) : (now * P + Int.fmod (pt * P) len, P) = told now len P C cu pt := by unfold told; rw [if_neg h, if_pos h']
theorem told_pc {now len P C cu pt : Int} (h : P ≠ 0) (h' : C ≠ 0) : (now * P + (if Int.fmod cu len * P < Int.fmod (pt * P) len then Int.fmod cu len * P else Int.fmod (pt * P) len), P) = told now len P C cu pt := by unfold told; rw [if_neg h, if_neg h']
local macro_rules | `(tactic| walk_at "use three") => `(tactic| (refine cb_drop (by k_asm) ?_; intro p9 hp9; rcases List.mem_cons.mp hp9 with h9 | h9; (· subst h9; k_mem); rcases List.mem_cons.mp h9 with h9 | h9; (· subst h9; k_mem); rcases List.mem_cons.mp h9 with h9 | h9; (· subst h9; k_mem); (· k_mem)))
set_option maxHeartbeats 4000000 in
theorem stats_spec {w : World} {p : Program} {loose : List Str} {mean : ExcName → Option Value} {mg mb : Str → Option Value} {dp un : Nat} {gd : Option (List Code)} {cn : Str} {cs : Scope} {a : Addr} {ccd : Value} {cl : List (Str × Addr)} {outer : List Env} {A₀ : Around} {base h₀ : Heap} {L : Addr} {m : Str → Option Value} {s : Shared} {Q E : Value → Shared → Prop} {news : List (Addr × Obj)} {x1 d1 ds de dv f cell nl cq : Addr} {fo co oq os oe : Obj} {t1 t2 t3 t4 tn : Tok} {now : Int} {kvs kve : List (Str × Value)} {c1 c2 : List (Str × Int)} {x3 d3 : Addr} {t5 t6 t7 t8 tm tl : Tok} {most len : Int} {x2 d2 : Addr} {u1 : Tok} {nm : Addr} {tA : Tok} {n : Nat}
    (B : Below A₀ base outer h₀) (F : Fr h₀ L s.heap m) (X : (Mine.hd.heap_39 w.params).In h₀) (N : News h₀ L s.heap news) (T : Top p loose mean mg mb h₀) (hk : cs.kind = .function) (hd : dp + 80 < recursionLimit) (hu : un + 800 < cLine) (hC : ClockSpec w p loose mean mg mb f cell nl cq fo co oq) (n1 : (x1, instObj 568 d1) ∈ news) (n2 : (d1, dictOf [⟨PySem.PyData.keyHash w.params (Str.ofString "clock"), .str (Str.ofString "clock") t1, .ref f⟩, ⟨PySem.PyData.keyHash w.params (Str.ofString "storage"), .str (Str.ofString "storage") t2, .ref ds⟩, ⟨PySem.PyData.keyHash w.params (Str.ofString "expirations"), .str (Str.ofString "expirations") t3, .ref de⟩, ⟨PySem.PyData.keyHash w.params (Str.ofString "events"), .str (Str.ofString "events") t4, .ref dv⟩] 4) ∈ news) (n5 : (f, fo) ∈ news) (n6 : (cell, co) ∈ news) (n7 : (nl, listOf #[.int now tn] 0) ∈ news) (n8 : (cq, oq) ∈ news) (ls : (ds == sysModules) = false) (le : (de == sysModules) = false) (hs : os.IsDictOf (strKind PG w) kvs) (fs : FlatPairs PyData.str kvs (kdpD c1)) (he : oe.IsDictOf (strKind PG w) kve) (fe : FlatPairs PyData.str kve (kdpD c2)) (n3 : (ds, os) ∈ news) (n4 : (de, oe) ∈ news) (i1 : (x3, instObj 423 d3) ∈ news) (i2 : (d3, dictOf [⟨PySem.PyData.keyHash w.params (Str.ofString "namespace"), .str (Str.ofString "namespace") t5, .str (Str.ofString "LIMITER") t8⟩, ⟨PySem.PyData.keyHash w.params (Str.ofString "amount"), .str (Str.ofString "amount") t6, .int most tm⟩, ⟨PySem.PyData.keyHash w.params (Str.ofString "multiples"), .str (Str.ofString "multiples") t7, .int len tl⟩] 3) ∈ news) (m1 : (x2, instObj 218 d2) ∈ news) (m2 : (d2, dictOf [⟨PySem.PyData.keyHash w.params (Str.ofString "storage"), .str (Str.ofString "storage") u1, .ref x1⟩] 1) ∈ news) (i3 : (nm, tupK [.str (Str.ofString "ann") tA].toArray n) ∈ news)
    (ok1 : KeyOk c1 c2 (kx (keyOf most len) (Int.fdiv (now - len) len)) now) (ok2 : KeyOk c1 c2 (kx (keyOf most len) (Int.fdiv now len)) now)
    (h0 : 1000000 ≤ now) (h9 : now ≤ 2000000000) (m0 : 1 ≤ most) (m9 : most ≤ 9) (l0 : 2 ≤ len) (l9 : len ≤ 8)
    (p0 : 0 ≤ kdpLook c1 (kx (keyOf most len) (Int.fdiv (now - len) len)) 0) (p9 : kdpLook c1 (kx (keyOf most len) (Int.fdiv (now - len) len)) 0 ≤ 9) (q0 : 0 ≤ kdpLook c1 (kx (keyOf most len) (Int.fdiv now len)) 0) (q9 : kdpLook c1 (kx (keyOf most len) (Int.fdiv now len)) 0 ≤ 9)
    (ret : ∀ P C cu pt left mom parts tl tm tp x dx t h' tk', kdpLook c1 (kx (keyOf most len) (Int.fdiv (now - len) len)) 0 = P → kdpLook c1 (kx (keyOf most len) (Int.fdiv now len)) 0 = C → cu = len - Int.fmod now len + len → pt = ttl P len now →
      left = leftOf most (Int.fdiv (P * pt) len + C) → (mom, parts) = told now len P C cu pt → Fr h₀ L h' m → News h₀ L h' ((x, statsObj dx (.ref t) (.int left tl)) :: (dx, dictOf [] 0) :: (t, tupObj [.int mom tm, .int parts tp]) :: news) → Q (.ref x) { s with heap := h', toks := tk' }) :
    wpAny (model PG w) (ktrTop dp un gd cn cs L a ccd cl outer) (call (.ref 206)  [.ref x2, .ref x3, .ref nm]) Q E s := by
  have hlen := keyOf_len m0 m9 l0 l9
  w_on
  revert X; (have hR : PySem.Challenge.rw_ji0057_01.name = PySem.Challenge.rw_ji0057_01.name := rfl); revert hR; k_fill; intro hR X; clear hR
  refine wpAny_call ?_
  k_dflt (walk_at "my enter")
  w_strict (k_steps; (all_goals (first | (exfalso; contradiction) | (refine' ret _ _ _ _ _ _ _ _ _ _ _ _ _ _ _ ?eP ?eC ?eU ?eQ ?eL ?eT ?eF ?eN; (case eN => walk_at "use three"); (case eF => k_asm); (case eP => assumption); (case eC => assumption); (case eU => assumption); (case eQ => assumption); (case eL => rfl); (case eT => first | exact told_00 (by assumption) (by assumption) | exact told_0c (by assumption) (by assumption) | exact told_p0 (by assumption) (by assumption) | exact told_pc (by assumption) (by assumption))))))

end
structure LS where
  now : Int
  tn : Tok
  log : List (Int × Int)
  lvs : List Value
  ln : Nat
  os : Obj
  oe : Obj
  kvs : List (Str × Value)
  kve : List (Str × Value)
  c1 : List (Str × Int)
  c2 : List (Str × Int)
def logDat (log : List (Int × Int)) : List Dat := log.map fun p => .tuple [.int p.1, .int p.2]
abbrev Led1 (ds de ll nl : Addr) (c : LS) : List (Addr × Obj) := [(ds, c.os), (de, c.oe), (ll, listOf c.lvs.toArray c.ln), (nl, listOf #[.int c.now c.tn] 0)]
def Facts1 (w : World) (nx : List (Addr × Obj)) (c : LS) : Prop :=
  c.os.IsDictOf (strKind PG w) c.kvs ∧ FlatPairs PyData.str c.kvs (kdpD c.c1) ∧ c.oe.IsDictOf (strKind PG w) c.kve ∧ FlatPairs PyData.str c.kve (kdpD c.c2) ∧ DatAll nx c.lvs (logDat c.log)
section
variable {w : World} {A : Around} {E : Value → Shared → Prop} {s : Shared} {env : Env} {h₀ : Heap} {x : Str} {body : List Stmt} {Q : Flow → Shared → Prop}
theorem loop1 {l ll nl ds de : Addr} {vs : List Value} {ns : List Int} {nn : Nat} {m₀ : Str → Option Value} {news : List (Addr × Obj)} (cst : List (Addr × Obj)) (stored : List Str) (Inv : List Int → LS → Prop) (c₀ : LS)
    (hh : A.handled = none) (hl : (l, listOf vs.toArray nn) ∈ cst) (hi : IntsAre vs ns) (F : Fr h₀ env.locals s.heap m₀) (N : News h₀ env.locals s.heap news) (hn : ∀ p ∈ Led1 ds de ll nl c₀ ++ (cst ++ []), p ∈ news) (hf : Facts1 w (cst ++ []) c₀) (hp : Inv [] c₀)
    (turn : ∀ (c : LS) tl pre post n t (u : Str → Option Value) h tk own, ns = pre ++ n :: post → KdSep own tl (ds :: de :: ll :: nl :: cst.map (·.1)) → OwnOff (tl ++ own) (ds :: de :: ll :: nl :: cst.map (·.1)) → Facts1 w (cst ++ tl) c → Inv pre c →
      Fr h₀ env.locals h (fun y => if y = x then some (.int n t) else if stored.contains y then u y else m₀ y) → News h₀ env.locals h (Led1 ds de ll nl c ++ (cst ++ (tl ++ own))) →
      wpAny (model PG w) A (execs body env) (InvPostG h₀ env.locals (KdS (Led1 ds de ll nl) cst (fun _ => []) (Facts1 w) x stored m₀ Inv (ds :: de :: ll :: nl :: cst.map (·.1)) (pre ++ [n])) own { s with heap := h, toks := tk } Q) E { s with heap := h, toks := tk })
    (done : ∀ (c : LS) tl (u : Str → Option Value) h tk, OwnOff tl (ds :: de :: ll :: nl :: cst.map (·.1)) → Facts1 w (cst ++ tl) c → Inv ns c → Fr h₀ env.locals h (fun y => if y = x then u y else if stored.contains y then u y else m₀ y) → News h₀ env.locals h (Led1 ds de ll nl c ++ (cst ++ tl)) → Q .next { s with heap := h, toks := tk }) :
    wpAny (model PG w) A (pyIter (.ref l)) (fun it s₂ => LoopAtV PG w A h₀ env x body Q E it s₂) E s :=
  kd_listI (Led1 ds de ll nl) cst (fun _ => []) (Facts1 w) stored Inv (ds :: de :: ll :: nl :: cst.map (·.1)) c₀ hh hl hi F N hn (fun _ => rfl) hf (fun _ h => nomatch h) hp
    (fun c tl pre post n t u h tk own e1 _ e3 e4 e5 e6 e7 e8 => turn c tl pre post n t u h tk own e1 e3 e4 e5 e6 e7 e8) done
end

/-- the costs of the log's entries in the window n -/
def cnt (L : Int) (log : List (Int × Int)) (n : Int) : Int := (log.map fun p => if p.1 / L = n then p.2 else 0).sum
def LogOk (now : Int) (log : List (Int × Int)) : Prop := ∀ p ∈ log, 1000000 ≤ p.1 ∧ p.1 ≤ now ∧ 1 ≤ p.2 ∧ p.2 ≤ 3
theorem cnt_nil (L n : Int) : cnt L [] n = 0 := rfl
theorem cnt_snoc (L : Int) (log : List (Int × Int)) (p : Int × Int) (n : Int) : cnt L (log ++ [p]) n = cnt L log n + (if p.1 / L = n then p.2 else 0) := by
  simp [cnt, List.sum_append]
theorem cnt_nonneg {L now : Int} {log : List (Int × Int)} (h : LogOk now log) (n : Int) : 0 ≤ cnt L log n := by
  induction log with
  | nil => exact Int.le_refl _
  | cons p r ih =>
    have h1 := h p List.mem_cons_self
    have h2 := ih (fun q hq => h q (List.mem_cons_of_mem _ hq))
    have e : cnt L (p :: r) n = (if p.1 / L = n then p.2 else 0) + cnt L r n := by simp [cnt]
    rw [e]
    split <;> omega
theorem cnt_later {L now : Int} {log : List (Int × Int)} (h : LogOk now log) (hL : 0 < L) {n : Int} (hn : now / L < n) : cnt L log n = 0 := by
  induction log with
  | nil => rfl
  | cons p r ih =>
    have h1 := h p List.mem_cons_self
    have h2 := ih (fun q hq => h q (List.mem_cons_of_mem _ hq))
    have e : cnt L (p :: r) n = (if p.1 / L = n then p.2 else 0) + cnt L r n := by simp [cnt]
    have h3 : p.1 / L ≤ now / L := Int.ediv_le_ediv hL h1.2.1
    rw [e, h2, if_neg (by omega)]
    rfl
/-- the weighed count at a second t -/
def Wt (L : Int) (log : List (Int × Int)) (t : Int) : Int := cnt L log (t / L - 1) * (L - t % L) / L + cnt L log (t / L)
/-- the whole part of the told moment -/
def tel (L : Int) (log : List (Int × Int)) (t : Int) : Int :=
  if cnt L log (t / L - 1) = 0 then (if cnt L log (t / L) = 0 then t else t - t % L + L)
  else t + (cnt L log (t / L - 1) * (L - t % L) % L) / cnt L log (t / L - 1)
theorem next_same {L t : Int} (hL : 2 ≤ L) (h : t % L + 1 < L) : (t + 1) / L = t / L ∧ (t + 1) % L = t % L + 1 := by
  have e := Int.emod_add_mul_ediv t L
  have h0 := Int.emod_nonneg t (show L ≠ 0 by omega)
  have e1 : t + 1 = (t % L + 1) + L * (t / L) := by omega
  refine ⟨?_, ?_⟩
  · rw [e1, Int.add_mul_ediv_left _ _ (by omega), Int.ediv_eq_zero_of_lt (by omega) h]; omega
  · rw [e1, Int.add_mul_emod_self_left, Int.emod_eq_of_lt (by omega) h]
theorem next_new {L t : Int} (hL : 2 ≤ L) (h : ¬ t % L + 1 < L) : (t + 1) / L = t / L + 1 ∧ (t + 1) % L = 0 ∧ t % L = L - 1 := by
  have e := Int.emod_add_mul_ediv t L
  have h1 := Int.emod_lt_of_pos t (show 0 < L by omega)
  have e2 : t % L = L - 1 := by omega
  have e1 : t + 1 = 0 + L * (t / L + 1) := by rw [Int.mul_add]; omega
  refine ⟨?_, ?_, e2⟩
  · rw [e1, Int.add_mul_ediv_left _ _ (by omega), Int.zero_ediv]; omega
  · rw [e1, Int.add_mul_emod_self_left, Int.zero_emod]
theorem Wt_nonneg {L now t : Int} {log : List (Int × Int)} (h : LogOk now log) (hL : 2 ≤ L) : 0 ≤ Wt L log t ∧ cnt L log (t / L) ≤ Wt L log t := by
  have h1 := cnt_nonneg (L := L) h (t / L)
  have h2 := cnt_nonneg (L := L) h (t / L - 1)
  have h3 := Int.emod_lt_of_pos t (show 0 < L by omega)
  have h4 : 0 ≤ cnt L log (t / L - 1) * (L - t % L) / L := Int.ediv_nonneg (Int.mul_nonneg h2 (by omega)) (by omega)
  unfold Wt
  omega
theorem Wt_new {L now t : Int} {log : List (Int × Int)} (h : LogOk now log) (hL : 2 ≤ L) (ht : now ≤ t) (hw : ¬ t % L + 1 < L) : Wt L log (t + 1) = cnt L log (t / L) := by
  obtain ⟨e1, e2, e3⟩ := next_new hL hw
  have h1 : now / L ≤ t / L := Int.ediv_le_ediv (by omega) ht
  unfold Wt
  rw [e1, e2, cnt_later h (by omega) (show now / L < t / L + 1 by omega), Int.sub_zero, Int.mul_ediv_cancel _ (by omega)]
  have : t / L + 1 - 1 = t / L := by omega
  rw [this]; omega
theorem Wt_same {L t : Int} {log : List (Int × Int)} (hL : 2 ≤ L) (hw : t % L + 1 < L) : Wt L log (t + 1) = cnt L log (t / L - 1) * (L - t % L - 1) / L + cnt L log (t / L) := by
  obtain ⟨e1, e2⟩ := next_same hL hw
  unfold Wt
  rw [e1, e2]
  have : L - (t % L + 1) = L - t % L - 1 := by omega
  rw [this]
theorem Wt_step {L now t : Int} {log : List (Int × Int)} (h : LogOk now log) (hL : 2 ≤ L) (ht : now ≤ t) : Wt L log (t + 1) ≤ Wt L log t := by
  by_cases hw : t % L + 1 < L
  · rw [Wt_same hL hw]
    unfold Wt
    have h2 := cnt_nonneg (L := L) h (t / L - 1)
    have h3 : cnt L log (t / L - 1) * (L - t % L - 1) ≤ cnt L log (t / L - 1) * (L - t % L) := Int.mul_le_mul_of_nonneg_left (by omega) h2
    have := Int.ediv_le_ediv (show 0 < L by omega) h3
    omega
  · rw [Wt_new h hL ht hw]
    exact (Wt_nonneg h hL).2
theorem Wt_mono {L now t : Int} {log : List (Int × Int)} (h : LogOk now log) (hL : 2 ≤ L) (ht : now ≤ t) (k : Nat) : Wt L log (t + k) ≤ Wt L log t := by
  induction k with
  | zero => simp
  | succ k ih =>
    have := Wt_step (t := t + k) h hL (by omega)
    have e : t + ((k + 1 : Nat) : Int) = t + k + 1 := by omega
    rw [e]; omega
theorem Wt_le {L now t u : Int} {log : List (Int × Int)} (h : LogOk now log) (hL : 2 ≤ L) (ht : now ≤ t) (hu : t ≤ u) : Wt L log u ≤ Wt L log t := by
  have := Wt_mono h hL ht (u - t).toNat
  have e : t + ((u - t).toNat : Int) = u := by omega
  rwa [e] at this
/-- within the window: the weighed count, d seconds on -/
theorem Wt_in {L t : Int} {log : List (Int × Int)} (hL : 2 ≤ L) (d : Nat) (hw : t % L + d < L) : Wt L log (t + d) = cnt L log (t / L - 1) * (L - t % L - d) / L + cnt L log (t / L) := by
  have e := Int.emod_add_mul_ediv t L
  have h0 := Int.emod_nonneg t (show L ≠ 0 by omega)
  have e1 : t + d = (t % L + d) + L * (t / L) := by omega
  have q1 : (t + d) / L = t / L := by rw [e1, Int.add_mul_ediv_left _ _ (by omega), Int.ediv_eq_zero_of_lt (by omega) hw]; omega
  have q2 : (t + d) % L = t % L + d := by rw [e1, Int.add_mul_emod_self_left, Int.emod_eq_of_lt (by omega) hw]
  unfold Wt
  rw [q1, q2]
  have : L - (t % L + d) = L - t % L - d := by omega
  rw [this]
/-- at the window's end -/
theorem Wt_end {L now t : Int} {log : List (Int × Int)} (h : LogOk now log) (hL : 2 ≤ L) (ht : now ≤ t) : Wt L log (t - t % L + L) = cnt L log (t / L) := by
  have e := Int.emod_add_mul_ediv t L
  have h0 := Int.emod_nonneg t (show L ≠ 0 by omega)
  have h1 := Int.emod_lt_of_pos t (show 0 < L by omega)
  have e1 : t - t % L + L - 1 = (L - 1) + L * (t / L) := by omega
  have q1 : (t - t % L + L - 1) / L = t / L := by rw [e1, Int.add_mul_ediv_left _ _ (by omega), Int.ediv_eq_zero_of_lt (by omega) (by omega)]; omega
  have q2 : (t - t % L + L - 1) % L = L - 1 := by rw [e1, Int.add_mul_emod_self_left, Int.emod_eq_of_lt (by omega) (by omega)]
  have := Wt_new (t := t - t % L + L - 1) h hL (by omega) (by omega)
  rw [q1] at this
  rw [← this]
  congr 1
  omega
theorem Wt_end1 {L now t : Int} {log : List (Int × Int)} (h : LogOk now log) (hL : 2 ≤ L) (ht : now ≤ t) (hc : 0 < cnt L log (t / L)) : Wt L log (t - t % L + L + 1) < cnt L log (t / L) := by
  have e := Int.emod_add_mul_ediv t L
  have h0 := Int.emod_nonneg t (show L ≠ 0 by omega)
  have h1 := Int.emod_lt_of_pos t (show 0 < L by omega)
  have h2 : now / L ≤ t / L := Int.ediv_le_ediv (by omega) ht
  have e1 : t - t % L + L + 1 = 1 + L * (t / L + 1) := by rw [Int.mul_add]; omega
  have q1 : (t - t % L + L + 1) / L = t / L + 1 := by rw [e1, Int.add_mul_ediv_left _ _ (by omega), Int.ediv_eq_zero_of_lt (by omega) (by omega)]; omega
  have q2 : (t - t % L + L + 1) % L = 1 := by rw [e1, Int.add_mul_emod_self_left, Int.emod_eq_of_lt (by omega) (by omega)]
  unfold Wt
  rw [q1, q2, cnt_later h (by omega) (show now / L < t / L + 1 by omega)]
  have : t / L + 1 - 1 = t / L := by omega
  rw [this]
  have h3 : cnt L log (t / L) * (L - 1) < cnt L log (t / L) * L := Int.mul_lt_mul_of_pos_left (by omega) hc
  have := Int.ediv_lt_of_lt_mul (show 0 < L by omega) h3
  omega
theorem tel_ge {L now t : Int} {log : List (Int × Int)} (h : LogOk now log) (hL : 2 ≤ L) : t ≤ tel L log t := by
  have h1 := Int.emod_lt_of_pos t (show 0 < L by omega)
  have h2 := cnt_nonneg (L := L) h (t / L - 1)
  unfold tel
  split
  · split <;> omega
  · have := Int.ediv_nonneg (Int.emod_nonneg (cnt L log (t / L - 1) * (L - t % L)) (show L ≠ 0 by omega)) h2
    omega
/-- the parts of P * d: weight and rest -/
theorem parts_eq {L P d : Int} : P * d = L * (P * d / L) + P * d % L := (Int.mul_ediv_add_emod _ _).symm
theorem rest_le {L P d : Int} (hL : 2 ≤ L) (hP : 0 < P) (hd : 0 ≤ d) : (P * d % L) / P ≤ d := by
  have h1 : P * d % L ≤ P * d := by
    have e := parts_eq (L := L) (P := P) (d := d)
    have : 0 ≤ P * d / L := Int.ediv_nonneg (Int.mul_nonneg (by omega) hd) (by omega)
    have : 0 ≤ L * (P * d / L) := Int.mul_nonneg (by omega) this
    omega
  have := Int.ediv_le_ediv hP h1
  rwa [Int.mul_ediv_cancel_left _ (by omega)] at this
theorem tel_le {L now t : Int} {log : List (Int × Int)} (h : LogOk now log) (hL : 2 ≤ L) : tel L log t ≤ t - t % L + L := by
  have h1 := Int.emod_lt_of_pos t (show 0 < L by omega)
  have h2 := cnt_nonneg (L := L) h (t / L - 1)
  unfold tel
  split
  · split <;> omega
  · have := rest_le (P := cnt L log (t / L - 1)) (d := L - t % L) hL (by omega) (by omega)
    omega
/-- up to the told moment the weighed count stays -/
theorem stays {L now t u : Int} {log : List (Int × Int)} (h : LogOk now log) (hL : 2 ≤ L) (ht : now ≤ t) (hu : t ≤ u) (hw : 0 < Wt L log t) (hT : u ≤ tel L log t) : Wt L log u = Wt L log t := by
  have hm := Int.emod_lt_of_pos t (show 0 < L by omega)
  have hm0 := Int.emod_nonneg t (show L ≠ 0 by omega)
  have hP := cnt_nonneg (L := L) h (t / L - 1)
  have hC := cnt_nonneg (L := L) h (t / L)
  have hend := tel_le (t := t) h hL
  by_cases hP0 : cnt L log (t / L - 1) = 0
  · -- only this window
    have hWt : Wt L log t = cnt L log (t / L) := by unfold Wt; rw [hP0, Int.zero_mul, Int.zero_ediv, Int.zero_add]
    by_cases hb : u < t - t % L + L
    · have := Wt_in (t := t) (log := log) hL (u - t).toNat (by omega)
      have e : t + ((u - t).toNat : Int) = u := by omega
      rw [e, hP0, Int.zero_mul, Int.zero_ediv, Int.zero_add] at this
      rw [this, hWt]
    · have e : u = t - t % L + L := by omega
      rw [e, Wt_end h hL ht, hWt]
  · have hpos : 0 < cnt L log (t / L - 1) := by omega
    have hT' : tel L log t = t + (cnt L log (t / L - 1) * (L - t % L) % L) / cnt L log (t / L - 1) := by unfold tel; rw [if_neg hP0]
    rw [hT'] at hT hend
    have hWt : Wt L log t = cnt L log (t / L - 1) * (L - t % L) / L + cnt L log (t / L) := rfl
    generalize hPe : cnt L log (t / L - 1) = P at *
    generalize hDe : L - t % L = d at *
    have hpe := parts_eq (L := L) (P := P) (d := d)
    have hr0 := Int.emod_nonneg (P * d) (show L ≠ 0 by omega)
    have hrL := Int.emod_lt_of_pos (P * d) (show 0 < L by omega)
    have hq := Int.emod_add_mul_ediv (P * d % L) P
    have hqm := Int.emod_nonneg (P * d % L) (show P ≠ 0 by omega)
    have hle : P * (u - t) ≤ P * d % L := by
      have h9 : P * (u - t) ≤ P * (P * d % L / P) := Int.mul_le_mul_of_nonneg_left (by omega) (by omega)
      omega
    have hk : 0 ≤ P * (u - t) := Int.mul_nonneg (by omega) (by omega)
    have hdist : P * (d - (u - t)) = P * d - P * (u - t) := Int.mul_sub _ _ _
    have hsame : P * (d - (u - t)) / L = P * d / L := by
      have e1 : P * (d - (u - t)) = (P * d % L - P * (u - t)) + L * (P * d / L) := by omega
      rw [e1, Int.add_mul_ediv_left _ _ (by omega), Int.ediv_eq_zero_of_lt (by omega) (by omega), Int.zero_add]
    by_cases hb : u < t - t % L + L
    · have := Wt_in (t := t) (log := log) hL (u - t).toNat (by omega)
      have e : t + ((u - t).toNat : Int) = u := by omega
      have e2 : L - t % L - ((u - t).toNat : Int) = d - (u - t) := by omega
      rw [e, e2, hPe, hsame] at this
      rw [this, hWt]
    · have e : u = t - t % L + L := by omega
      have e0 : d - (u - t) = 0 := by omega
      rw [e0, Int.mul_zero, Int.zero_ediv] at hsame
      rw [e, Wt_end h hL ht, hWt, ← hsame, Int.zero_add]
/-- at the second behind the told moment more is let -/
theorem drops {L now t : Int} {log : List (Int × Int)} (h : LogOk now log) (hL : 2 ≤ L) (ht : now ≤ t) (hw : 0 < Wt L log t) : Wt L log (tel L log t + 1) < Wt L log t := by
  have hm := Int.emod_lt_of_pos t (show 0 < L by omega)
  have hm0 := Int.emod_nonneg t (show L ≠ 0 by omega)
  have hP := cnt_nonneg (L := L) h (t / L - 1)
  have hC := cnt_nonneg (L := L) h (t / L)
  have hend := tel_le (t := t) h hL
  have hge := tel_ge (t := t) h hL
  by_cases hP0 : cnt L log (t / L - 1) = 0
  · have hWt : Wt L log t = cnt L log (t / L) := by unfold Wt; rw [hP0, Int.zero_mul, Int.zero_ediv, Int.zero_add]
    have hT : tel L log t = t - t % L + L := by unfold tel; rw [if_pos hP0, if_neg (by omega)]
    rw [hT, hWt]
    exact Wt_end1 h hL ht (by omega)
  · have hpos : 0 < cnt L log (t / L - 1) := by omega
    have hT' : tel L log t = t + (cnt L log (t / L - 1) * (L - t % L) % L) / cnt L log (t / L - 1) := by unfold tel; rw [if_neg hP0]
    have hWt : Wt L log t = cnt L log (t / L - 1) * (L - t % L) / L + cnt L log (t / L) := rfl
    generalize hu : tel L log t = u at *
    generalize hPe : cnt L log (t / L - 1) = P at *
    generalize hDe : L - t % L = d at *
    have hpe := parts_eq (L := L) (P := P) (d := d)
    have hr0 := Int.emod_nonneg (P * d) (show L ≠ 0 by omega)
    have hq := Int.emod_add_mul_ediv (P * d % L) P
    have hqm := Int.emod_lt_of_pos (P * d % L) hpos
    have hmore : P * d % L < P * (u + 1 - t) := by
      have e : u + 1 - t = P * d % L / P + 1 := by omega
      rw [e, Int.mul_add, Int.mul_one]; omega
    have hdist : P * (d - (u + 1 - t)) = P * d - P * (u + 1 - t) := Int.mul_sub _ _ _
    have hlt : P * (d - (u + 1 - t)) < P * d / L * L := by rw [Int.mul_comm (P * d / L) L]; omega
    by_cases hb : u + 1 < t - t % L + L
    · have := Wt_in (t := t) (log := log) hL (u + 1 - t).toNat (by omega)
      have e : t + ((u + 1 - t).toNat : Int) = u + 1 := by omega
      have e2 : L - t % L - ((u + 1 - t).toNat : Int) = d - (u + 1 - t) := by omega
      rw [e, e2, hPe] at this
      have := Int.ediv_lt_of_lt_mul (show 0 < L by omega) hlt
      omega
    · by_cases hb2 : u + 1 = t - t % L + L
      · have e0 : d - (u + 1 - t) = 0 := by omega
        rw [e0, Int.mul_zero] at hlt
        have hpos' : 0 < P * d / L := by
          rcases Int.lt_or_le 0 (P * d / L) with h9 | h9
          · exact h9
          · have : P * d / L * L ≤ 0 := Int.mul_nonpos_of_nonpos_of_nonneg h9 (by omega)
            omega
        rw [hb2, Wt_end h hL ht, hWt]
        omega
      · have e : u + 1 = t - t % L + L + 1 := by omega
        have hud : u - t = d := by omega
        have hz : P * d / L = 0 := by
          have h8 : P * (P * d % L / P) = P * d := by
            have : P * d % L / P = d := by omega
            rw [this]
          have h9 := Int.emod_nonneg (P * d % L) (show P ≠ 0 by omega)
          have h10 : L * (P * d / L) ≤ 0 := by omega
          have h11 : 0 ≤ P * d / L := Int.ediv_nonneg (Int.mul_nonneg (by omega) (by omega)) (by omega)
          rcases Int.lt_or_le 0 (P * d / L) with h12 | h12
          · have := Int.mul_pos (show 0 < L by omega) h12
            omega
          · omega
        have hCp : 0 < cnt L log (t / L) := by omega
        have := Wt_end1 h hL ht hCp
        rw [e]
        omega
/-- the told moment lies ahead of the end -/
theorem tel_lt {L now t₁ t : Int} {log : List (Int × Int)} (h : LogOk now log) (hL : 2 ≤ L) (h1 : now ≤ t₁) (ht : t₁ ≤ t) (hm : t₁ % L ≠ 0) (hw : 0 < Wt L log t) : tel L log t < t₁ + 2 * L := by
  have hend := tel_le (t := t) h hL
  have e1 := Int.emod_add_mul_ediv t₁ L
  have e := Int.emod_add_mul_ediv t L
  have m0 := Int.emod_nonneg t₁ (show L ≠ 0 by omega)
  have hn : now / L ≤ t₁ / L := Int.ediv_le_ediv (by omega) h1
  have hk : t / L ≤ t₁ / L + 1 := by
    rcases Int.lt_or_le (t₁ / L + 1) (t / L) with h9 | h9
    · have z1 : cnt L log (t / L) = 0 := cnt_later h (by omega) (by omega)
      have z2 : cnt L log (t / L - 1) = 0 := cnt_later h (by omega) (by omega)
      unfold Wt at hw
      rw [z1, z2, Int.zero_mul, Int.zero_ediv] at hw
      omega
    · exact h9
  have h2 : L * (t / L) ≤ L * (t₁ / L + 1) := Int.mul_le_mul_of_nonneg_left hk (by omega)
  rw [Int.mul_add] at h2
  omega
/-- at last all is free -/
theorem Wt_last {L now t₁ : Int} {log : List (Int × Int)} (h : LogOk now log) (hL : 2 ≤ L) (h1 : now ≤ t₁) : Wt L log (t₁ + 2 * L) = 0 := by
  have hn : now / L ≤ t₁ / L := Int.ediv_le_ediv (by omega) h1
  have q : (t₁ + 2 * L) / L = t₁ / L + 2 := by rw [Int.add_mul_ediv_right _ _ (by omega)]
  unfold Wt
  rw [q, cnt_later h (by omega) (show now / L < t₁ / L + 2 - 1 by omega), cnt_later h (by omega) (show now / L < t₁ / L + 2 by omega), Int.zero_mul, Int.zero_ediv]
  rfl

theorem ofString_inj {a b : String} (h : Str.ofString a = Str.ofString b) : a = b := by
  rw [Str.ofString_eq_toList, Str.ofString_eq_toList] at h
  have h1 : a.toList.map Char.toNat = b.toList.map Char.toNat := by
    have := congrArg (fun s : Str => s.cps.toList) h
    simpa using this
  have h2 : a.toList = b.toList := (List.map_inj_right (fun x y hxy => Char.toNat_inj.mp hxy)).mp h1
  exact String.toList_inj.mp h2
theorem kx_inj {key : Str} {n m : Int} (h : kx key n = kx key m) : n = m := by
  have h1 := congrArg (fun s : Str => s.cps.toList) h
  simp only [kx] at h1
  have app : ∀ a b : Str, (a ++ b).cps.toList = a.cps.toList ++ b.cps.toList := fun a b => by
    show (a.cps ++ b.cps).toList = _
    rw [Array.toList_append]
  rw [app, app _ (Str.ofString (toString m))] at h1
  have h2 := List.append_cancel_left h1
  have h3 : Str.ofString (toString n) = Str.ofString (toString m) := by
    have : ∀ a b : Str, a.cps.toList = b.cps.toList → a = b := fun a b e => by
      cases a; cases b; congr 1; exact Array.toList_inj.mp e
    exact this _ _ h2
  exact Int.repr_injective (ofString_inj h3)
/-- what the two tables hold, in the log's words -/
structure Tab (L M : Int) (key : Str) (log : List (Int × Int)) (c1 c2 : List (Str × Int)) : Prop where
  look : ∀ n, kdpLook c1 (kx key n) 0 = cnt L log n
  has : ∀ n, kdpHas c1 (kx key n) = kdpHas c2 (kx key n)
  exp : ∀ n, kdpHas c1 (kx key n) = true → n * L + 2 * L ≤ kdpLook c2 (kx key n) 0
  max : ∀ n, cnt L log n ≤ M
theorem Tab.start (L : Int) {M : Int} (key : Str) (hM : 0 ≤ M) : Tab L M key [] [] [] := ⟨fun _ => rfl, fun _ => rfl, (fun _ h => by cases h), fun _ => hM⟩
theorem win_prev {L t : Int} (hL : 2 ≤ L) : Int.fdiv (t - L) L = t / L - 1 := by
  rw [Int.fdiv_eq_ediv_of_nonneg _ (by omega)]
  have e : t - L = t + (-1) * L := by omega
  rw [e, Int.add_mul_ediv_right _ _ (by omega)]
  omega
theorem win_this {L t : Int} (hL : 2 ≤ L) : Int.fdiv t L = t / L := Int.fdiv_eq_ediv_of_nonneg _ (by omega)
section
variable {L M now t : Int} {key : Str} {log : List (Int × Int)} {c1 c2 : List (Str × Int)}
theorem Tab.ok (T : Tab L M key log c1 c2) (hL : 2 ≤ L) {n : Int} (hn : t / L - 1 ≤ n) : KeyOk c1 c2 (kx key n) t := by
  refine ⟨fun h => ?_, fun h => by rw [← T.has n]; exact h⟩
  have h1 := T.exp n h
  have e := Int.emod_add_mul_ediv t L
  have h2 := Int.emod_lt_of_pos t (show 0 < L by omega)
  have h3 : L * (t / L) ≤ L * (n + 1) := Int.mul_le_mul_of_nonneg_left (by omega) (by omega)
  rw [Int.mul_add, Int.mul_comm L n] at h3
  omega
theorem Tab.ok1 (T : Tab L M key log c1 c2) (hL : 2 ≤ L) : KeyOk c1 c2 (kx key (Int.fdiv (t - L) L)) t := by rw [win_prev hL]; exact T.ok hL (Int.le_refl _)
theorem Tab.ok2 (T : Tab L M key log c1 c2) (hL : 2 ≤ L) : KeyOk c1 c2 (kx key (Int.fdiv t L)) t := by rw [win_this hL]; exact T.ok hL (by omega)
theorem Tab.prev (T : Tab L M key log c1 c2) (hL : 2 ≤ L) : kdpLook c1 (kx key (Int.fdiv (t - L) L)) 0 = cnt L log (t / L - 1) := by rw [win_prev hL]; exact T.look _
theorem Tab.this (T : Tab L M key log c1 c2) (hL : 2 ≤ L) : kdpLook c1 (kx key (Int.fdiv t L)) 0 = cnt L log (t / L) := by rw [win_this hL]; exact T.look _
theorem ttl_mul (P : Int) (hL : 2 ≤ L) : P * ttl P L t = P * (L - t % L) := by
  unfold ttl
  by_cases h : P = 0
  · rw [if_pos h, h, Int.zero_mul, Int.zero_mul]
  · rw [if_neg h, Int.fmod_eq_emod_of_nonneg _ (by omega), Int.sub_emod_right]
theorem Tab.weighed (T : Tab L M key log c1 c2) (hL : 2 ≤ L) : weighed c1 key L t = Wt L log t := by
  unfold Mine.weighed Wt
  rw [T.prev hL, T.this hL, ttl_mul _ hL, Int.fdiv_eq_ediv_of_nonneg _ (by omega)]
/-- a hit that is let -/
theorem Tab.hit (T : Tab L M key log c1 c2) (K : LogOk now log) (hL : 2 ≤ L) {amt : Int} (ha : 1 ≤ amt) (hw : Mine.weighed c1 key L t + amt ≤ M) :
    Tab L M key (log ++ [(t, amt)]) (kdpPut c1 (kx key (Int.fdiv t L)) (kdpLook c1 (kx key (Int.fdiv t L)) 0 + amt)) (if kdpLook c1 (kx key (Int.fdiv t L)) 0 = 0 then kdpPut c2 (kx key (Int.fdiv t L)) (t + 2 * L) else c2) := by
  have hC := (Wt_nonneg (t := t) K hL).2
  rw [T.weighed hL] at hw
  have e := Int.emod_add_mul_ediv t L
  have h2 := Int.emod_nonneg t (show L ≠ 0 by omega)
  rw [T.this hL, win_this hL]
  have hk : ∀ n, (kx key n = kx key (t / L)) ↔ n = t / L := fun n => ⟨kx_inj, fun h => by rw [h]⟩
  have hmul : t / L * L = L * (t / L) := Int.mul_comm _ _
  refine ⟨fun n => ?_, fun n => ?_, fun n => ?_, fun n => ?_⟩
  · rw [look_put, cnt_snoc]
    by_cases h : n = t / L
    · rw [if_pos ((hk n).mpr h), if_pos h.symm, h]
    · rw [if_neg (fun q => h ((hk n).mp q)), if_neg (fun q => h q.symm), T.look, Int.add_zero]
  · by_cases hz : cnt L log (t / L) = 0
    · rw [if_pos hz, kdpHas_put, kdpHas_put, T.has]
    · rw [if_neg hz, kdpHas_put, T.has]
      by_cases h : n = t / L
      · subst h
        have hh : kdpHas c1 (kx key (t / L)) = true := by
          cases q : kdpHas c1 (kx key (t / L)) with
          | true => rfl
          | false =>
            have := T.look (t / L)
            have hn := kdpD_isSome (kx key (t / L)) c1
            rw [q] at hn
            have h9 := kdpD_getD c1 (kx key (t / L)) 0
            cases hl : PySem.Spec.lookup (PyData.str (kx key (t / L))) (kdpD c1) with
            | some d => rw [hl] at hn; cases hn
            | none => rw [hl] at h9; exact absurd (this ▸ (PyData.int.inj h9).symm) hz
        rw [← T.has, hh, Bool.or_true]
      · rw [decide_eq_false (fun q => h ((hk n).mp q)), Bool.false_or]
  · rw [kdpHas_put]
    by_cases hz : cnt L log (t / L) = 0
    · rw [if_pos hz, look_put]
      by_cases h : n = t / L
      · intro _; subst h; rw [if_pos rfl]; omega
      · rw [if_neg (fun q => h ((hk n).mp q)), decide_eq_false (fun q => h ((hk n).mp q)), Bool.false_or]; exact T.exp n
    · rw [if_neg hz]
      by_cases h : n = t / L
      · intro _
        subst h
        refine T.exp _ ?_
        cases q : kdpHas c1 (kx key (t / L)) with
        | true => rfl
        | false =>
          have := T.look (t / L)
          have hn := kdpD_isSome (kx key (t / L)) c1
          rw [q] at hn
          have h9 := kdpD_getD c1 (kx key (t / L)) 0
          cases hl : PySem.Spec.lookup (PyData.str (kx key (t / L))) (kdpD c1) with
          | some d => rw [hl] at hn; cases hn
          | none => rw [hl] at h9; exact absurd (this ▸ (PyData.int.inj h9).symm) hz
      · rw [decide_eq_false (fun q => h ((hk n).mp q)), Bool.false_or]; exact T.exp n
  · rw [cnt_snoc]
    by_cases h : n = t / L
    · rw [if_pos h.symm, h]; omega
    · rw [if_neg (fun q => h q.symm), Int.add_zero]; exact T.max n
theorem LogOk.later (K : LogOk now log) (h : now ≤ t) : LogOk t log := fun p hp => by have := K p hp; exact ⟨this.1, by omega, this.2.2⟩
theorem LogOk.snoc (K : LogOk t log) {amt : Int} (h0 : 1000000 ≤ t) (ha : 1 ≤ amt) (h3 : amt ≤ 3) : LogOk t (log ++ [(t, amt)]) := by
  intro p hp
  rcases List.mem_append.mp hp with h | h
  · exact K p h
  · rw [List.mem_singleton.mp h]; exact ⟨h0, Int.le_refl _, ha, h3⟩
theorem Wt_hit (hL : 2 ≤ L) {amt : Int} : Wt L (log ++ [(t, amt)]) t = Wt L log t + amt := by
  unfold Wt
  rw [cnt_snoc, cnt_snoc, if_pos rfl, if_neg (show ¬ t / L = t / L - 1 by omega), Int.add_zero]
  omega
end
/-- what holds between the hits -/
structure Inv1 (L M now0 : Int) (key : Str) (pre : List Int) (c : LS) : Prop where
  n1 : c.c1.length ≤ pre.length
  n2 : c.c2.length ≤ pre.length
  nl : c.log.length ≤ pre.length
  lo : now0 ≤ c.now
  hi : c.now ≤ now0 + 8 * pre.length
  log : LogOk c.now c.log
  tab : Tab L M key c.log c.c1 c.c2
  wt : Wt L c.log c.now ≤ M
theorem Inv1.start {L M now0 : Int} {key : Str} {tn : Tok} {os oe : Obj} (hM : 0 ≤ M) : Inv1 L M now0 key [] ⟨now0, tn, [], [], 0, os, oe, [], [], [], []⟩ :=
  ⟨Nat.le_refl _, Nat.le_refl _, Nat.le_refl _, Int.le_refl _, by simp, (fun _ h => nomatch h), Tab.start L key hM, (by simp [Wt, cnt_nil]; exact hM)⟩
/-- what a hit asks of the two tables at a second t -/
structure Asks (L : Int) (key : Str) (c1 c2 : List (Str × Int)) (t : Int) : Prop where
  ok1 : KeyOk c1 c2 (kx key (Int.fdiv (t - L) L)) t
  ok2 : KeyOk c1 c2 (kx key (Int.fdiv t L)) t
  p0 : 0 ≤ kdpLook c1 (kx key (Int.fdiv (t - L) L)) 0
  p9 : kdpLook c1 (kx key (Int.fdiv (t - L) L)) 0 ≤ 9
  q0 : 0 ≤ kdpLook c1 (kx key (Int.fdiv t L)) 0
  q9 : kdpLook c1 (kx key (Int.fdiv t L)) 0 ≤ 9
theorem Tab.asks {L M now t : Int} {key : Str} {log : List (Int × Int)} {c1 c2 : List (Str × Int)} (T : Tab L M key log c1 c2) (K : LogOk now log) (hL : 2 ≤ L) (hM : M ≤ 9) : Asks L key c1 c2 t := by
  refine ⟨T.ok1 hL, T.ok2 hL, ?_, ?_, ?_, ?_⟩
  · rw [T.prev hL]; exact cnt_nonneg K _
  · rw [T.prev hL]; exact Int.le_trans (T.max _) hM
  · rw [T.this hL]; exact cnt_nonneg K _
  · rw [T.this hL]; exact Int.le_trans (T.max _) hM
section
variable {L M now0 : Int} {key : Str} {pre : List Int} {now t x : Int} {tn tt : Tok} {log : List (Int × Int)} {lvs lvs' : List Value} {ln ln' : Nat} {os oe os' oe' : Obj} {kvs kve kvs' kve' : List (Str × Value)} {c1 c2 c2' : List (Str × Int)}
theorem Inv1.miss (I : Inv1 L M now0 key pre ⟨now, tn, log, lvs, ln, os, oe, kvs, kve, c1, c2⟩) (hL : 2 ≤ L) (h1 : now ≤ t) (h2 : t ≤ now + 8) : Inv1 L M now0 key (pre ++ [x]) ⟨t, tt, log, lvs', ln', os', oe', kvs', kve', c1, c2⟩ := by
  obtain ⟨n1, n2, nl, lo, hi, lg, tab, wt⟩ := I
  dsimp only at *
  refine ⟨?_, ?_, ?_, ?_, ?_, lg.later h1, tab, Int.le_trans (Wt_le lg hL (Int.le_refl _) h1) wt⟩ <;> dsimp only <;> (try rw [List.length_append, List.length_singleton]) <;> omega
theorem Inv1.hit (I : Inv1 L M now0 key pre ⟨now, tn, log, lvs, ln, os, oe, kvs, kve, c1, c2⟩) (hL : 2 ≤ L) (h1 : now ≤ t) (h2 : t ≤ now + 8) (hb : 1000000 ≤ now0) {amt : Int} (ha : 1 ≤ amt) (h3 : amt ≤ 3) (hw : weighed c1 key L t + amt ≤ M)
    (hc : c2' = (if kdpLook c1 (kx key (Int.fdiv t L)) 0 = 0 then kdpPut c2 (kx key (Int.fdiv t L)) (t + 2 * L) else c2)) :
    Inv1 L M now0 key (pre ++ [x]) ⟨t, tt, log ++ [(t, amt)], lvs', ln', os', oe', kvs', kve', kdpPut c1 (kx key (Int.fdiv t L)) (kdpLook c1 (kx key (Int.fdiv t L)) 0 + amt), c2'⟩ := by
  obtain ⟨n1, n2, nl, lo, hi, lg, tab, wt⟩ := I
  subst hc
  dsimp only at *
  have e1 := kdpPut_len c1 (kx key (Int.fdiv t L)) (kdpLook c1 (kx key (Int.fdiv t L)) 0 + amt)
  refine ⟨?_, ?_, ?_, ?_, ?_, (lg.later h1).snoc (by omega) ha h3, tab.hit lg hL ha hw, ?_⟩
  · dsimp only; rw [List.length_append, List.length_singleton]; omega
  · dsimp only; rw [List.length_append, List.length_singleton]
    split
    · have e2 := kdpPut_len c2 (kx key (Int.fdiv t L)) (t + 2 * L); omega
    · omega
  · dsimp only; rw [List.length_append, List.length_append, List.length_singleton, List.length_singleton]; omega
  · dsimp only; omega
  · dsimp only; rw [List.length_append, List.length_singleton]; omega
  · dsimp only; rw [Wt_hit hL, ← tab.weighed hL]; exact hw
end

/-- what the law's turn asks of the stats at a second t -/
structure TurnOk (L M t : Int) (log : List (Int × Int)) (P C left mom parts : Int) : Prop where
  eP : P = cnt L log (t / L - 1)
  eC : C = cnt L log (t / L)
  eL : left = M - Wt L log t
  P0 : 0 ≤ P
  P9 : P ≤ M
  C0 : 0 ≤ C
  C9 : C ≤ M
  l0 : 0 ≤ left
  l9 : left ≤ M
  p1 : 1 ≤ parts
  p9 : parts ≤ 9
  m0 : t ≤ mom
  m9 : mom ≤ t * 9 + 72
  w0 : (M - left - C) * L ≤ P * (t - Int.fmod t L + L - t)
  w1 : P * (t - Int.fmod t L + L - t) < (M - left - C + 1) * L
  b1 : 0 < P → P * ((t - Int.fmod t L + L) * parts - mom) = (M - left - C) * L * parts
  b2 : P = 0 → 0 < C → mom = (t - Int.fmod t L + L) * parts
  b3 : P = 0 → C = 0 → mom = t * parts ∧ left = M
  te : Int.fdiv mom parts = tel L log t
theorem turn_ok {L M now t P C cu pt left mom parts : Int} {key : Str} {log : List (Int × Int)} {c1 c2 : List (Str × Int)} (T : Tab L M key log c1 c2) (K : LogOk now log) (hL : 2 ≤ L) (hL8 : L ≤ 8) (hM9 : M ≤ 9) (ht0 : 1000000 ≤ t)
    (hz : cnt L log (t / L) ≠ 0 → t % L ≠ 0) (hW : Wt L log t ≤ M)
    (eP : kdpLook c1 (kx key (Int.fdiv (t - L) L)) 0 = P) (eC : kdpLook c1 (kx key (Int.fdiv t L)) 0 = C) (eU : cu = L - Int.fmod t L + L) (eQ : pt = ttl P L t) (eL : left = leftOf M (Int.fdiv (P * pt) L + C)) (eT : (mom, parts) = told t L P C cu pt) :
    TurnOk L M t log P C left mom parts := by
  rw [T.prev hL] at eP
  rw [T.this hL] at eC
  have hP := cnt_nonneg (L := L) K (t / L - 1)
  have hC := cnt_nonneg (L := L) K (t / L)
  have hP9 := T.max (t / L - 1)
  have hC9 := T.max (t / L)
  have hm0 := Int.emod_nonneg t (show L ≠ 0 by omega)
  have hm := Int.emod_lt_of_pos t (show 0 < L by omega)
  have hpt : P * pt = P * (L - t % L) := by rw [eQ]; exact ttl_mul P hL
  have hW0 := (Wt_nonneg (t := t) K hL).1
  have hWd : Wt L log t = P * (L - t % L) / L + C := by unfold Wt; rw [eP, eC]
  have hleft : left = M - Wt L log t := by
    rw [eL, hpt, Int.fdiv_eq_ediv_of_nonneg _ (by omega), hWd]
    rw [hWd] at hW
    unfold leftOf
    split <;> omega
  have hfm : Int.fmod t L = t % L := Int.fmod_eq_emod_of_nonneg _ (by omega)
  have hcu : Int.fmod cu L = if t % L = 0 then 0 else L - t % L := by
    rw [eU, hfm, Int.fmod_eq_emod_of_nonneg _ (by omega)]
    have e1 : L - t % L + L = (L - t % L) + L * 1 := by omega
    rw [e1, Int.add_mul_emod_self_left]
    by_cases h : t % L = 0
    · rw [if_pos h, h, Int.sub_zero, Int.emod_self]
    · rw [if_neg h, Int.emod_eq_of_lt (by omega) (by omega)]
  have hrest : Int.fmod (pt * P) L = P * (L - t % L) % L := by rw [Int.mul_comm, hpt, Int.fmod_eq_emod_of_nonneg _ (by omega)]
  have hpe := parts_eq (L := L) (P := P) (d := L - t % L)
  have hr0 := Int.emod_nonneg (P * (L - t % L)) (show L ≠ 0 by omega)
  have hrL := Int.emod_lt_of_pos (P * (L - t % L)) (show 0 < L by omega)
  have hw : M - left - C = P * (L - t % L) / L := by omega
  have hq0 : 0 ≤ P * (L - t % L) / L := Int.ediv_nonneg (Int.mul_nonneg (by omega) (by omega)) (by omega)
  have hdd : t - Int.fmod t L + L - t = L - t % L := by rw [hfm]; omega
  have hcomm : P * (L - t % L) / L * L = L * (P * (L - t % L) / L) := Int.mul_comm _ _
  -- the told pair, by cases
  have hpair : (P = 0 → C = 0 → mom = t ∧ parts = 1) ∧ (P = 0 → C ≠ 0 → mom = t - t % L + L ∧ parts = 1) ∧ (P ≠ 0 → mom = t * P + P * (L - t % L) % L ∧ parts = P) := by
    unfold told at eT
    refine ⟨fun h1 h2 => ?_, fun h1 h2 => ?_, fun h1 => ?_⟩
    · rw [if_pos h1, if_pos h2] at eT; exact ⟨(Prod.mk.inj eT).1, (Prod.mk.inj eT).2⟩
    · rw [if_pos h1, if_neg h2, hcu, if_neg (hz (by rw [eC]; exact h2))] at eT
      exact ⟨by have := (Prod.mk.inj eT).1; omega, (Prod.mk.inj eT).2⟩
    · rw [if_neg h1] at eT
      by_cases h2 : C = 0
      · rw [if_pos h2, hrest] at eT; exact ⟨(Prod.mk.inj eT).1, (Prod.mk.inj eT).2⟩
      · rw [if_neg h2, hrest, hcu, if_neg (hz (by rw [eC]; exact h2))] at eT
        have hle : P * (L - t % L) % L ≤ (L - t % L) * P := by
          rw [Int.mul_comm (L - t % L) P]
          have : 0 ≤ L * (P * (L - t % L) / L) := Int.mul_nonneg (by omega) hq0
          omega
        rw [if_neg (by omega)] at eT
        exact ⟨(Prod.mk.inj eT).1, (Prod.mk.inj eT).2⟩
  obtain ⟨k1, k2, k3⟩ := hpair
  have htel : tel L log t = if P = 0 then (if C = 0 then t else t - t % L + L) else t + (P * (L - t % L) % L) / P := by unfold tel; rw [eP, eC]
  refine ⟨eP.symm, eC.symm, hleft, by omega, by omega, by omega, by omega, by omega, by omega, ?_, ?_, ?_, ?_, ?_, ?_, ?_, ?_, ?_, ?_⟩
  · by_cases h1 : P = 0
    · by_cases h2 : C = 0
      · have := k1 h1 h2; omega
      · have := k2 h1 h2; omega
    · have := k3 h1; omega
  · by_cases h1 : P = 0
    · by_cases h2 : C = 0
      · have := k1 h1 h2; omega
      · have := k2 h1 h2; omega
    · have := k3 h1; omega
  · by_cases h1 : P = 0
    · by_cases h2 : C = 0
      · have := k1 h1 h2; omega
      · have := k2 h1 h2; omega
    · have := k3 h1
      have h9 : t * 1 ≤ t * P := Int.mul_le_mul_of_nonneg_left (by omega) (by omega)
      omega
  · by_cases h1 : P = 0
    · by_cases h2 : C = 0
      · have := k1 h1 h2; omega
      · have := k2 h1 h2; omega
    · have := k3 h1
      have h9 : t * P ≤ t * 9 := Int.mul_le_mul_of_nonneg_left (by omega) (by omega)
      omega
  · rw [hw, hdd]; omega
  · rw [hw, hdd, Int.add_mul]; omega
  · intro h
    have k := k3 (by omega)
    rw [hw, hfm, k.1, k.2]
    have e1 : (t - t % L + L) * P - (t * P + P * (L - t % L) % L) = P * (L - t % L) - P * (L - t % L) % L := by
      have : t - t % L + L = t + (L - t % L) := by omega
      rw [this, Int.add_mul, Int.mul_comm (L - t % L) P]; omega
    have e2 : P * (L - t % L) - P * (L - t % L) % L = P * (L - t % L) / L * L := by omega
    rw [e1, e2, Int.mul_comm]
  · intro h1 h2
    have k := k2 h1 (by omega)
    rw [k.1, k.2, hfm]; omega
  · intro h1 h2
    have k := k1 h1 h2
    refine ⟨by rw [k.1, k.2]; omega, ?_⟩
    rw [hleft, hWd, h1, h2, Int.zero_mul, Int.zero_ediv]; omega
  · rw [htel]
    by_cases h1 : P = 0
    · rw [if_pos h1]
      by_cases h2 : C = 0
      · rw [if_pos h2, (k1 h1 h2).1, (k1 h1 h2).2, Int.fdiv_one]
      · rw [if_neg h2, (k2 h1 h2).1, (k2 h1 h2).2, Int.fdiv_one]
    · rw [if_neg h1, (k3 h1).1, (k3 h1).2, Int.fdiv_eq_ediv_of_nonneg _ (by omega), Int.add_comm, Int.add_mul_ediv_right _ _ h1, Int.add_comm]

theorem slice_from {vs : List Value} {x : Int} (h : 0 ≤ x) : (slicePick vs.toArray (some x) none none).toList = vs.drop x.toNat := by
  have e : sliceBounds (some x) none none vs.toArray.size = (((min x.toNat vs.toArray.size : Nat) : Int), ((vs.toArray.size : Nat) : Int), 1) := by
    simp only [sliceBounds, Option.getD_none, show (1 : Int) > 0 by decide, if_true, if_neg (show ¬ (x < 0) by omega)]
    congr 1
    omega
  rw [kmk_pick_nat _ e]
  show (vs.drop (min x.toNat vs.toArray.size)).take (vs.toArray.size - min x.toNat vs.toArray.size) = _
  rw [List.size_toArray, kmk_drop_min, List.take_of_length_le (by rw [List.length_drop]; omega)]
theorem DatAll.dropped {news : List (Addr × Obj)} {vs : List Value} {ds : List Dat} (h : DatAll news vs ds) (k : Nat) : DatAll news (vs.drop k) (ds.drop k) := by
  induction k generalizing vs ds with
  | zero => exact h
  | succ k ih =>
    cases h with
    | nil => exact .nil
    | cons _ r => exact ih r
section
variable {prog : Program} {w : World} {A : Around} {E : Value → Shared → Prop} {s : Shared} {env : Env} {h₀ : Heap} {target : PySem.Expr} {body : List Stmt} {Q : Flow → Shared → Prop}
set_option maxHeartbeats 3200000 in
/-- a loop over a list of the ledger, whatever the target -/
theorem turns_iter {l : Addr} {vs : List Value} {nn : Nat} {m₀ : Str → Option Value} {news : List (Addr × Obj)} (J : Nat → (Str → Option Value) → List (Addr × Obj) → Prop)
    (hh : A.handled = none) (hl : (l, listOf vs.toArray nn) ∈ news) (F : Fr h₀ env.locals s.heap m₀) (N : News h₀ env.locals s.heap news) (hj : J 0 m₀ news)
    (turn : ∀ i v m₁ news₁ h tk own, vs[i]? = some v → OwnOff own (news₁.map (·.1)) → (l, listOf vs.toArray nn) ∈ news₁ → J i m₁ news₁ → Fr h₀ env.locals h m₁ → News h₀ env.locals h (news₁ ++ own) →
      wpAny (model prog w) A (assign target env v) (fun _ s₃ => wpAny (model prog w) A (execs body env) (InvPostG h₀ env.locals (fun m' nx => (l, listOf vs.toArray nn) ∈ nx ∧ J (i + 1) m' nx) own { s with heap := h, toks := tk } Q) E s₃) E { s with heap := h, toks := tk })
    (done : ∀ m₁ news₁ h tk, J vs.length m₁ news₁ → Fr h₀ env.locals h m₁ → News h₀ env.locals h news₁ → Q .next { s with heap := h, toks := tk }) :
    wpAny (model prog w) A (pyIter (.ref l)) (fun it s₂ => TurnsAt prog w A h₀ env target body Q E it s₂) E s := by
  have hol : s.heap.get? l = some (listOf vs.toArray nn) := (N _ hl).1
  have hls : s.heap.IsList l vs.toArray := ⟨_, hol, rfl, nn, rfl⟩
  have hne : l ≠ s.heap.objs.size := Nat.ne_of_lt (Heap.lt_size hol)
  refine wpAny_pyIter_list hls ?_
  have W := Walks.list (prog := prog) (w := w) hh s.heap.objs.size l hne vs.toArray
  have hlen : vs.toArray.size = vs.length := by simp
  rw [hlen] at W
  have W2 := KTurns.ofWalks (target := target) W fun i v s Q E st q => letGo_listiter st.1 q
  refine ⟨_, _, _, vs.length, _, _, _, m₀, news, (fun i m nx => (l, listOf vs.toArray nn) ∈ nx ∧ J i m nx), rfl, W2, ?_, ?_, ?_, ⟨⟨_, Heap.get?_push_size _ rfl, rfl, rfl⟩, hls.at fun o e => Heap.get?_push_of_some _ e⟩, F.push _, (fun p hp => ⟨Heap.get?_push_of_some _ (N p hp).1, (N p hp).2⟩), ⟨hl, hj⟩, ?_, ?_⟩
  · intro hm
    rcases List.mem_cons.mp hm with e | hm
    · exact absurd F.ns.lt (e ▸ Nat.lt_irrefl _)
    · exact (N _ hl).2.1 ((List.mem_singleton.mp hm).symm)
  · intro b hb
    rw [List.mem_singleton.mp hb]
    exact next_is_new F
  · intro p hp hI
    exact absurd (Heap.lt_size (N p hp).1) ((List.mem_singleton.mp hI) ▸ Nat.lt_irrefl _)
  · rintro i v m₁ news₁ hh' tk' own hin hP ⟨hl₁, hJ⟩ hoff hown hget hfp hst F₁ N₁
    have hP' : vs[i]? = some v := by simpa using hP
    have hI0 : h₀.get? s.heap.objs.size = none := next_is_new F
    obtain ⟨⟨oI, hoI, _⟩, _⟩ := id hst
    have hIown : (s.heap.objs.size, oI) ∈ own.filter fun p => decide (p.1 = s.heap.objs.size) := List.mem_filter.mpr ⟨hfp _ (List.mem_cons.mpr (.inl rfl)) hI0 _ hoI, by simp⟩
    have hsep : OwnOff (own.filter fun p => decide (p.1 = s.heap.objs.size)) (news₁.map (·.1)) := by
      intro p hp b hb e
      obtain ⟨q, hq, rfl⟩ := List.mem_map.mp hb
      have h1 : p.1 = s.heap.objs.size := by simpa using (List.mem_filter.mp hp).2
      exact hoff q hq (List.mem_singleton.mpr (e ▸ h1))
    have N₂ : News h₀ env.locals hh' (news₁ ++ own.filter fun p => decide (p.1 = s.heap.objs.size)) := fun p hp => N₁ p ((List.mem_append.mp hp).elim (fun h => List.mem_append.mpr (.inr h)) fun h => List.mem_append.mpr (.inl ((List.mem_filter.mp h).1)))
    have hlo : hh'.get? l = some (listOf vs.toArray nn) := (N₁ _ (List.mem_append.mpr (.inr hl₁))).1
    refine wpAny_mono (turn i v m₁ news₁ hh' tk' _ hP' hsep hl₁ hJ F₁ N₂) (fun _ s₃ r => wpAny_mono r (fun f s₂ p => ?_) fun _ _ e => e) fun _ _ e => e
    have fin : InvEndG h₀ env.locals (fun m' nx => (l, listOf vs.toArray nn) ∈ nx ∧ J (i + 1) m' nx) (own.filter fun p => decide (p.1 = s.heap.objs.size)) { s with heap := hh', toks := tk' } s₂ →
        LoopStepU h₀ env.locals [s.heap.objs.size] own (fun m nx => (l, listOf vs.toArray nn) ∈ nx ∧ J (i + 1) m nx) { s with heap := hh', toks := tk' } .next s₂ := by
      rintro ⟨h', tk, m', news', nx, e, F', N', hn, ho, ha, hm⟩
      refine ⟨rfl, h', tk, m', nx, e, F', fun p hp => ?_, fun p hp hq => ?_, hm⟩
      · rcases List.mem_append.mp hp with h | h
        · by_cases hI : p.1 = s.heap.objs.size
          · exact N' p (ho p (List.mem_filter.mpr ⟨h, by simpa using hI⟩))
          · have h1 : p.1 = l := by
              rcases List.mem_cons.mp (hown p h) with h2 | h2
              · exact absurd h2 hI
              · exact List.mem_singleton.mp h2
            have h2 : hh'.get? p.1 = some p.2 := hget p h
            rw [h1, hlo] at h2
            have h3 : p = (l, listOf vs.toArray nn) := Prod.ext h1 (Option.some.inj h2).symm
            rw [h3]
            exact N' _ (hn _ hm.1)
        · exact N' p (hn p h)
      · exact ha _ hIown p.1 (List.mem_map.mpr ⟨p, hp, rfl⟩) (List.mem_singleton.mp hq).symm
    cases f with
    | ret v => exact .ret p
    | brk => exact .brk p
    | next => exact .next (fin p)
    | cont => exact .cont (fin p)
  · rintro h' tk m' news' F' N' _ ⟨_, hJ⟩
    exact done m' news' h' tk hJ F' N'
set_option maxHeartbeats 3200000 in
/-- a loop over a list of data of the ledger, whatever the target -/
theorem turns_list {σ : Type} {x : Str} {l : Addr} {vs : List Value} {ds : List Dat} {nn : Nat} {m₀ : Str → Option Value} {news : List (Addr × Obj)} (Led : σ → List (Addr × Obj)) (cst : List (Addr × Obj)) (ps : σ → List (Str × Value)) (Facts : List (Addr × Obj) → σ → Prop) (stored : List Str) (P : List Dat → σ → Prop) (adr : List Addr) (c₀ : σ)
    (hh : A.handled = none) (hl : (l, listOf vs.toArray nn) ∈ cst) (hd : DatAll (cst ++ []) vs ds) (F : Fr h₀ env.locals s.heap m₀) (N : News h₀ env.locals s.heap news) (hn : ∀ p ∈ Led c₀ ++ (cst ++ []), p ∈ news) (hadr : ∀ c, (Led c ++ cst).map (·.1) = adr) (hf : Facts (cst ++ []) c₀) (hk : ∀ p ∈ ps c₀, m₀ p.1 = some p.2) (hp : P [] c₀)
    (turn : ∀ (c : σ) tl pre d post v (u : Str → Option Value) h tk own, ds = pre ++ d :: post → d ∈ ds → DatIn (cst ++ tl) v d → KdSep own tl adr → OwnOff (tl ++ own) adr → Facts (cst ++ tl) c → P pre c →
      Fr h₀ env.locals h (fun y => if y = x then u y else kstB (fun z => if stored.contains z then u z else m₀ z) (ps c) y) → News h₀ env.locals h (Led c ++ (cst ++ (tl ++ own))) →
      wpAny (model prog w) A (assign target env v) (fun _ s₃ => wpAny (model prog w) A (execs body env) (InvPostG h₀ env.locals (KdS Led cst ps Facts x stored m₀ P adr (pre ++ [d])) own { s with heap := h, toks := tk } Q) E s₃) E { s with heap := h, toks := tk })
    (done : ∀ (c : σ) tl (u : Str → Option Value) h tk, OwnOff tl adr → Facts (cst ++ tl) c → P ds c → Fr h₀ env.locals h (fun y => if y = x then u y else kstB (fun z => if stored.contains z then u z else m₀ z) (ps c) y) → News h₀ env.locals h (Led c ++ (cst ++ tl)) → Q .next { s with heap := h, toks := tk }) :
    wpAny (model prog w) A (pyIter (.ref l)) (fun it s₂ => TurnsAt prog w A h₀ env target body Q E it s₂) E s := by
  have hlen : vs.length = ds.length := hd.length
  refine turns_iter (news := Led c₀ ++ (cst ++ [])) (fun i m nx => KdS Led cst ps Facts x stored m₀ P adr (ds.take i) m nx) hh (List.mem_append.mpr (.inr (List.mem_append.mpr (.inl hl)))) F (fun p hp => N p (hn p hp)) ⟨c₀, [], rfl, fun _ hp => (nomatch hp), hf, hk, fun _ _ _ _ => rfl, by simpa using hp⟩ ?_ ?_
  · rintro i v m₁ nx h tk own hv hoff _ ⟨c, tl, rfl, ht, hf', h1, h2, hp'⟩ F₁ N₁
    have hi : i < ds.length := by rw [← hlen]; exact (List.getElem?_eq_some_iff.mp hv).1
    obtain ⟨v', hv', hD⟩ := hd.get hi
    have ev : v' = v := by rw [hv] at hv'; exact (Option.some.inj hv').symm
    rw [ev] at hD
    have hs : ds.take (i + 1) = ds.take i ++ [ds[i]'hi] := by rw [List.take_add_one, List.getElem?_eq_getElem hi] <;> rfl
    have e : ds = ds.take i ++ (ds[i]'hi) :: ds.drop (i + 1) := by
      have h9 := List.take_append_drop (i + 1) ds
      rw [hs, List.append_assoc] at h9
      exact h9.symm
    obtain ⟨o1, o2⟩ := kd_split (hadr c) hoff
    rw [List.append_assoc, List.append_assoc] at N₁
    refine wpAny_mono (turn c tl _ _ _ v m₁ h tk own e (List.getElem_mem hi) (DatIn.mono (fun p hp => List.mem_append.mpr (.inl (by rw [List.append_nil] at hp; exact hp))) hD) ⟨o1, o2, ht⟩ (kd_off o1 ht) hf' hp' (kst_frOut h1 h2 F₁) N₁) (fun _ s₃ r => wpAny_mono r (fun f s₂ p => ?_) fun _ _ x => x) fun _ _ x => x
    have up : InvEndG h₀ env.locals (KdS Led cst ps Facts x stored m₀ P adr (ds.take i ++ [ds[i]'hi])) own { s with heap := h, toks := tk } s₂ →
        InvEndG h₀ env.locals (fun m' nx => (l, listOf vs.toArray nn) ∈ nx ∧ KdS Led cst ps Facts x stored m₀ P adr (ds.take (i + 1)) m' nx) own { s with heap := h, toks := tk } s₂ := by
      rintro ⟨h', tk', m', news', nx', e', F', N', hn', ho', ha, hS⟩
      refine ⟨h', tk', m', news', nx', e', F', N', hn', ho', ha, ?_, by rw [hs]; exact hS⟩
      obtain ⟨c', tl', rfl, _⟩ := hS
      exact List.mem_append.mpr (.inr (List.mem_append.mpr (.inl hl)))
    cases f with
    | ret v => exact p
    | brk => exact p
    | next => exact up p
    | cont => exact up p
  · rintro m₁ nx h tk ⟨c, tl, rfl, ht, hf', h1, h2, hp'⟩ F₁ N₁
    rw [hlen, List.take_length] at hp'
    exact done c tl m₁ h tk ht hf' hp' (kst_frOut h1 h2 F₁) N₁
end

structure Wrap (p : Prop) : Prop where
  out : p
def PremOf {P Q : Prop} (_ : P → Q) : Prop := P
theorem len_ne (x : Int) : ¬ 2 + Int.fmod (x + 3) 7 = 0 := by
  have := Int.fmod_nonneg_of_pos (x + 3) (show (0 : Int) < 7 by decide)
  omega
theorem len_bd (x : Int) : 2 ≤ 2 + Int.fmod (x + 3) 7 ∧ 2 + Int.fmod (x + 3) 7 ≤ 8 := by
  have := Int.fmod_nonneg_of_pos (x + 3) (show (0 : Int) < 7 by decide)
  have := Int.fmod_lt_of_pos (x + 3) (show (0 : Int) < 7 by decide)
  omega
theorem most_bd (x : Int) : 1 ≤ 1 + Int.fmod (x + 5) 9 ∧ 1 + Int.fmod (x + 5) 9 ≤ 9 := by
  have := Int.fmod_nonneg_of_pos (x + 5) (show (0 : Int) < 9 by decide)
  have := Int.fmod_lt_of_pos (x + 5) (show (0 : Int) < 9 by decide)
  omega
theorem now_bd (x : Int) : 1000000 ≤ 1000000 + Int.fmod x 1000000000 ∧ 1000000 + Int.fmod x 1000000000 ≤ 1001000000 := by
  have := Int.fmod_nonneg_of_pos x (show (0 : Int) < 1000000000 by decide)
  have := Int.fmod_lt_of_pos x (show (0 : Int) < 1000000000 by decide)
  omega
/-- what stays through the whole law -/
structure Frame (w : World) (s₀ s₁ : Shared) (p : Program) (loose : List Str) (mean : ExcName → Option Value) (mg mb : Str → Option Value) (base : Str → Option Value) (most len : Int) (ll nm x3 d3 x2 d2 x1 d1 ds de dv f cq nl : Addr) (t1 t2 t3 t4 t5 t6 t7 t8 tm tl u1 tA qm ql : Tok) (fo co oq : Obj) (ps : Array Value) : Prop where
  B : Below callerA (ghostOf s₁.heap [(576, 572)]) [] (ghostOf s₁.heap [(576, 572)])
  X : (Mine.hd.heap_39 w.params).In (ghostOf s₁.heap [(576, 572)])
  T : Top p loose mean mg mb (ghostOf s₁.heap [(576, 572)])
  hg : s₁.gens = #[]
  hC : ClockSpec w p loose mean mg mb f (s₁.heap.objs.size + 1) nl cq fo co oq
  hd : co.data = .cell (some (.ref nl))
  ls : (ds == sysModules) = false
  le : (de == sysModules) = false
  ch : @LT.lt Nat _ (572) (s₁.heap.objs.size + 1) ∧ @LT.lt Nat _ (s₁.heap.objs.size + 1) (nl) ∧ @LT.lt Nat _ (nl) (cq) ∧ @LT.lt Nat _ (cq) (f) ∧ @LT.lt Nat _ (f) (d1) ∧ @LT.lt Nat _ (d1) (x1) ∧ @LT.lt Nat _ (x1) (ds) ∧ @LT.lt Nat _ (ds) (de) ∧ @LT.lt Nat _ (de) (d2) ∧ @LT.lt Nat _ (d2) (x2) ∧ @LT.lt Nat _ (x2) (d3) ∧ @LT.lt Nat _ (d3) (x3) ∧ @LT.lt Nat _ (x3) (nm) ∧ @LT.lt Nat _ (nm) (ll)
  m0 : 1 ≤ most
  m9 : most ≤ 9
  l0 : 2 ≤ len
  l9 : len ≤ 8
/-- the law's state ahead of its first loop -/
structure Start1 (w : World) (s₀ s₁ : Shared) (l : Addr) (h : Heap) (p : Program) (loose : List Str) (mean : ExcName → Option Value) (mg mb : Str → Option Value) (base : Str → Option Value) (most len : Int) (ll nm x3 d3 x2 d2 x1 d1 ds de dv f cq nl : Addr) (t1 t2 t3 t4 t5 t6 t7 t8 tm tl u1 tA qm ql : Tok) (fo co oq : Obj) (ps : Array Value) (now0 : Int) (tn : Tok) (os oe : Obj) (vs : List Value) (xs : List Int) : Prop where
  F : Fr (ghostOf s₁.heap [(576, 572)]) s₁.heap.objs.size h (fun y => if y = Str.ofString "log" then some (.ref ll) else if y = Str.ofString "names" then some (.ref nm) else if y = Str.ofString "item" then some (.ref x3) else if y = Str.ofString "limiter" then some (.ref x2) else if y = Str.ofString "most" then some (.int most qm) else if y = Str.ofString "length" then some (.int len ql) else base y)
  N : News (ghostOf s₁.heap [(576, 572)]) s₁.heap.objs.size h ((ds, os) :: (de, oe) :: (ll, listOf #[] 0) :: (nl, listOf #[.int now0 tn] 0) :: (l, listOf vs.toArray 0) :: [(nm, tupK [.str (Str.ofString "ann") tA].toArray 0), (x3, instObj 423 d3), (d3, dictOf [⟨PySem.PyData.keyHash w.params (Str.ofString "namespace"), .str (Str.ofString "namespace") t5, .str (Str.ofString "LIMITER") t8⟩, ⟨PySem.PyData.keyHash w.params (Str.ofString "amount"), .str (Str.ofString "amount") t6, .int most tm⟩, ⟨PySem.PyData.keyHash w.params (Str.ofString "multiples"), .str (Str.ofString "multiples") t7, .int len tl⟩] 3), (x2, instObj 218 d2), (d2, dictOf [⟨PySem.PyData.keyHash w.params (Str.ofString "storage"), .str (Str.ofString "storage") u1, .ref x1⟩] 1), (x1, instObj 568 d1), (d1, dictOf [⟨PySem.PyData.keyHash w.params (Str.ofString "clock"), .str (Str.ofString "clock") t1, .ref f⟩, ⟨PySem.PyData.keyHash w.params (Str.ofString "storage"), .str (Str.ofString "storage") t2, .ref ds⟩, ⟨PySem.PyData.keyHash w.params (Str.ofString "expirations"), .str (Str.ofString "expirations") t3, .ref de⟩, ⟨PySem.PyData.keyHash w.params (Str.ofString "events"), .str (Str.ofString "events") t4, .ref dv⟩] 4), (f, fo), (cq, oq), (s₁.heap.objs.size + 1, co), (572, tabObj ps)])
  fr : Frame w s₀ s₁ p loose mean mg mb base most len ll nm x3 d3 x2 d2 x1 d1 ds de dv f cq nl t1 t2 t3 t4 t5 t6 t7 t8 tm tl u1 tA qm ql fo co oq ps
  hs : os.IsDictOf (strKind PG w) []
  he : oe.IsDictOf (strKind PG w) []
  hi : IntsAre vs xs
  hx : xs.length ≤ 12
  ch2 : @LT.lt Nat _ ll l
  n0 : 1000000 ≤ now0
  n9 : now0 ≤ 1001000000
theorem red1 {h₀ : Heap} {L : Addr} {h : Heap} {e1 e2 e3 e4 e5 e6 e7 e8 e9 e10 e11 e12 e13 e14 e15 e16 e17 e18 e19 e20 e21 e22 : Addr × Obj}
    (N : News h₀ L h [e1, e2, e3, e4, e5, e6, e7, e8, e9, e10, e11, e12, e13, e14, e15, e16, e17, e18, e19, e20, e21, e22]) :
    News h₀ L h [e10, e9, e2, e15, e1, e3, e4, e5, e6, e7, e11, e12, e13, e14, e21, e22] := by
  refine cb_drop N fun p hp => ?_
  simp only [List.mem_cons, List.not_mem_nil, or_false] at hp ⊢
  rcases hp with h | h | h | h | h | h | h | h | h | h | h | h | h | h | h | h <;> simp [h]
theorem ane_cons {q : Addr × Obj} {l : List (Addr × Obj)} {b : Addr} (h : @Ne Nat q.1 b) (h2 : ∀ p ∈ l, p.1 ≠ b) : ∀ p ∈ q :: l, p.1 ≠ b := fun p hp => by
  rcases List.mem_cons.mp hp with e | hp
  · subst e; exact h
  · exact h2 p hp
theorem mod_bd {len n : Int} (l0 : 2 ≤ len) (l9 : len ≤ 8) : 0 ≤ Int.fmod n (len + 1) ∧ Int.fmod n (len + 1) ≤ 8 := by
  have := Int.fmod_nonneg_of_pos n (show 0 < len + 1 by omega)
  have := Int.fmod_lt_of_pos n (show 0 < len + 1 by omega)
  omega
theorem cost_bd (n : Int) : 1 ≤ 1 + Int.fmod n 3 ∧ 1 + Int.fmod n 3 ≤ 3 := by
  have := Int.fmod_nonneg_of_pos n (show (0 : Int) < 3 by decide)
  have := Int.fmod_lt_of_pos n (show (0 : Int) < 3 by decide)
  omega
/-- what a turn of the first loop needs at its second -/
theorem turn1 {len most now0 now t : Int} {pre post xs : List Int} {n : Int} {tn : Tok} {log : List (Int × Int)} {lvs : List Value} {ln : Nat} {os oe : Obj} {kvs kve : List (Str × Value)} {c1 c2 : List (Str × Int)}
    (I : Inv1 len most now0 (keyOf most len) pre ⟨now, tn, log, lvs, ln, os, oe, kvs, kve, c1, c2⟩) (e1 : xs = pre ++ n :: post) (hx : xs.length ≤ 12) (n0 : 1000000 ≤ now0) (n9 : now0 ≤ 1001000000) (l0 : 2 ≤ len) (m9 : most ≤ 9) (h0 : 0 ≤ t) (h8 : t ≤ 8) :
    Asks len (keyOf most len) c1 c2 (now + t) ∧ c1.length ≤ 1000 ∧ c2.length ≤ 1000 ∧ 1000000 ≤ now + t ∧ now + t ≤ 2000000000 := by
  have hl : pre.length ≤ 12 := by rw [e1, List.length_append] at hx; omega
  have i1 := I.n1; have i2 := I.n2; have i3 := I.lo; have i4 := I.hi
  dsimp only at i1 i2 i3 i4
  exact ⟨I.tab.asks I.log l0 m9, by omega, by omega, by omega, by omega⟩
theorem in_all0 {a b c d : List (Addr × Obj)} : ∀ p ∈ a ++ (b ++ ([] ++ c)), p ∈ a ++ (b ++ (c ++ d)) := fun p hp => by
  simp only [List.nil_append, List.mem_append] at hp ⊢
  rcases hp with h | h | h <;> simp [h]
theorem in_all1 {q : Addr × Obj} {a b c d : List (Addr × Obj)} : ∀ p ∈ a ++ (b ++ ([q] ++ c)), p ∈ q :: (a ++ (b ++ (c ++ d))) := fun p hp => by
  simp only [List.mem_append, List.mem_cons, List.not_mem_nil, or_false] at hp ⊢
  rcases hp with h | h | h | h <;> simp [h]
theorem in_own0 {a b c d : List (Addr × Obj)} : ∀ p ∈ d, p ∈ a ++ (b ++ (c ++ d)) := fun p hp => by simp [hp]
theorem in_own1 {q : Addr × Obj} {a b c d : List (Addr × Obj)} : ∀ p ∈ d, p ∈ q :: (a ++ (b ++ (c ++ d))) := fun p hp => by simp [hp]
theorem log_snoc {nx : List (Addr × Obj)} {lvs : List Value} {log : List (Int × Int)} {a : Addr} {x y : Int} {t u : Tok} {k : Nat} (h : DatAll nx lvs (logDat log)) (hm : (a, tupK [.int x t, .int y u].toArray k) ∈ nx) : DatAll nx (lvs ++ [.ref a]) (logDat (log ++ [(x, y)])) := by
  rw [logDat, List.map_append]
  exact h.append (DatAll.one (.tuple hm (.cons (.int _ _) (.cons (.int _ _) .nil))))
theorem log_size {now0 len most : Int} {key : Str} {pre post xs : List Int} {n : Int} {c : LS} {nx : List (Addr × Obj)} (I : Inv1 len most now0 key pre c) (e1 : xs = pre ++ n :: post) (hx : xs.length ≤ 12) (hl : DatAll nx c.lvs (logDat c.log)) : c.lvs.toArray.size ≤ sizeLine := by
  have h1 := hl.length
  have h2 := I.nl
  rw [e1, List.length_append] at hx
  rw [logDat, List.length_map] at h1
  rw [List.size_toArray, sizeLine_eq]
  omega

section
local macro_rules | `(tactic| walk_at "exec For") => `(tactic| (k_here; (with_reducible show wpAny _ _ (exec (Stmt.For (Expr.Name _ _) (Expr.Subscript _ _ _) _ [] _) _) _ _ _); (rename Fr _ _ _ _ => F9); (with_unfolding_all refine For_invVF F9 (by rfl) (by rfl) ?_)))
-- macs: F0
set_option maxHeartbeats 8000000 in
noncomputable def W1 : PSigma fun GC : World → Shared → Shared → (Str → Option Value) → (Str → Option Value) → Addr → Addr → Obj → Addr → Addr → Obj → Array Value → Tok → Value → Prop =>
    PSigma fun G : World → Shared → Shared → Addr → List Int → Nat → Addr → Heap → Prop =>
    (Wrap (∀ (w : World) (s₀ s₁ : Shared) (mg mb : Str → Option Value) (fa nl : Addr) (co : Obj) (f c : Addr) (oc : Obj) (vs : Array Value) (t : Tok) (ct : Value), co.data = .cell (some (.ref nl)) → oc.data = .fields vs → GC w s₀ s₁ mg mb fa nl co f c oc vs t ct)) →
    (Wrap (∀ (w : World) (s₀ s₁ : Shared) (fa : Addr) (ns : List Int) (tk : Nat) (l : Addr) (h : Heap) (p : Program) (loose : List Str) (mean : ExcName → Option Value) (mg mb : Str → Option Value) (base : Str → Option Value) (most len : Int) (ll nm x3 d3 x2 d2 x1 d1 ds de dv f cq nl : Addr) (t1 t2 t3 t4 t5 t6 t7 t8 tm tl u1 tA qm ql : Tok) (fo co oq : Obj) (ps : Array Value) (now0 : Int) (tn : Tok) (os oe : Obj) (vs : List Value) (xs : List Int), Start1 w s₀ s₁ l h p loose mean mg mb base most len ll nm x3 d3 x2 d2 x1 d1 ds de dv f cq nl t1 t2 t3 t4 t5 t6 t7 t8 tm tl u1 tA qm ql fo co oq ps now0 tn os oe vs xs → G w s₀ s₁ fa ns tk l h)) → PremOf hd := by
  refine' ⟨_, _, fun hR0 hR => _⟩
  rotate_left
  rotate_left
  · unfold PremOf
    w_on
    w_strict (k_go0; (all_goals try k_fold); (repeat' ((fail_if_success (with_reducible show wpAny _ _ (pyIter (Value.ref _)) (fun _ _ => LoopAtV _ _ _ _ _ _ _ _ _ _ _) _ _)); first | (k_unfold; (try dsimp only)) | (k_end; wrow_close) | walk1 | (dsimp only; walk1) | (leave1; walk_say "STEP leave1"; try dsimp only) | fail "no step")); (all_goals (try (exfalso; exact len_ne _ (by assumption)))); expose_names; dsimp only)
    have k := hR.out w s₀ s₁ fa w_1 tk D'_5 h'_34 _ _ _ mg mb _ _ _ _ _ _ _ _ _ _ _ _ _ _ _ _ _ _ _ _ _ _ _ _ _ _ _ _ _ _ _ _ _ _ _ _ _ _ _ _ _ ⟨F'_3, red1 N'_3, ⟨K', X', T', hg, ?hC, d', lo', lo'_1, ?ch, (most_bd _).1, (most_bd _).2, (len_bd _).1, (len_bd _).2⟩, hs', hs'_1, hI'_3, ?hx, ?ch2, (now_bd _).1, (now_bd _).2⟩
    · have ht : True := trivial
      revert ht
      exact k
    case ch => omega
    case ch2 => omega
    case hx => rw [hC'_2]; omega
    case hC =>
      have k := hR0.out w s₀ s₁ mg mb fa l'_1 o' f' c'_1 oc' vs' t' ct' d' d1'
      revert d2'
      exact k

end
section
local macro_rules | `(tactic| k_mem) => `(tactic| first | assumption | exact List.mem_cons_self | (refine List.mem_cons_of_mem _ ?_; k_mem))
local macro_rules | `(tactic| walk_at "callWith ref") => `(tactic| (k_here; k_dflt (first | (refine' callWith_F ?k1 ?_; (case k1 => exact FnAt.of (by k_asm) (by k_mem)); k_whole) | (refine' callWith_F0 ?k1 ?_; (case k1 => exact FnAt.of (by k_asm) (by k_mem)); k_whole; try dsimp only [List.nil_append, List.cons_append]))))
local macro_rules | `(tactic| walk_at "call ref") => `(tactic| (k_here; k_dflt (refine wpAny_call ?_; (refine' kla_code ?k1 ?k2 ?k3 ?k4 ?k5 ?kA ?kF ?kK ?k6 ?k7 ?k8 ?k9 ?kB ?_ ?c2 ?c3 ?c4 ?c5; (case kA => exact rfl); (case kF => exact rfl); (case kK => assumption); (case k1 => k_asm); (case k2 => k_asm); (case k3 => k_asm); (case k4 => k_asm); (case k5 => k_asm); (case k6 => k_mem); (case k7 => exact codeRec_news (by k_asm) (by k_mem) (by assumption) (by assumption)); (case k8 => ktr_room); (case k9 => exact rfl); (case c5 => decide); (case kB => exact locs rfl); (case c2 => exact rfl); (case c3 => exact rfl); (case c4 => exact rfl); k_whole; intro g' L' h' FG' F' N' B' X' T'; (try dsimp only); (try k_lift B'); (try k_fold)))))
local macro_rules | `(tactic| walk_at "eval Name") => `(tactic| (k_here; k_dflt (refine' nameX_F ?N ?c ?m ?d ?_ ?a ?b; (case a => rfl); (case b => rfl); (case N => k_asm); (case c => rfl); (case m => k_mem); (case d => k_asm); k_whole)))
-- macs: F1
theorem now_item {prog : Program} {w : World} {A : Around} {E : Value → Shared → Prop} {s : Shared} {h₀ : Heap} {L l : Addr} {value slice : PySem.Expr} {news : List (Addr × Obj)} {now : Int} {tn u : Tok} {n : Nat} {Q : Value → Shared → Prop} (N : News h₀ L s.heap news) (hm : (l, listOf #[.int now tn] n) ∈ news)
    (h : ∀ t, Q (.int now t) s) (hs : subscripted slice false (.ref l) (.int 0 u) = operate [.ref l, .int 0 u] (getItem (.ref l) (.int 0 u)) := by with_unfolding_all rfl) :
    wpAny (model prog w) A (subscriptTail value slice (.ref l) (.int 0 u)) Q E s :=
  kd_item (ds := [Dat.int now]) (us := [.int now tn]) (L9 := []) N hm (DatAll.one (DatIn.int now tn)) (by decide) (by simp) (by decide) (fun v d e _ hD => by cases e; cases hD; exact h _) hs
set_option maxHeartbeats 8000000 in
theorem PC : ∀ (w : World) (s₀ s₁ : Shared) (mg mb : Str → Option Value) (fa nl : Addr) (co : Obj) (f c : Addr) (oc : Obj) (vs : Array Value) (t : Tok) (ct : Value), co.data = .cell (some (.ref nl)) → oc.data = .fields vs → W1.1 w s₀ s₁ mg mb fa nl co f c oc vs t ct := by
  intro w s₀ s₁ mg mb fa nl co f c oc vs t ct hco d1 d2 now tn news pos dp un gd cn cs a ccd cl outer A₀ base h₀ L m s Q E nf nc nn nq B F X N T hk hd hu ret
  w_on
  revert X; (have hM : PySem.Challenge.rw_ji0057_01.name = PySem.Challenge.rw_ji0057_01.name := rfl); revert hM; k_fill; intro hM X; clear hM
  w_strict (k_steps; (with_unfolding_all refine' now_item ?N ?hm ?_ ?hs); (case N => k_asm); (case hm => assumption); (case hs => with_unfolding_all rfl); intro t9; k_steps; (all_goals exact ret _ _ _ (by k_asm) (by k_asm)))

end
theorem one_getD (x : Int) : [x].getD (Int.toNat 0) 0 = x := rfl
/-- the law's state behind its first loop -/
structure After1 (w : World) (s₀ s₁ : Shared) (h : Heap) (p : Program) (loose : List Str) (mean : ExcName → Option Value) (mg mb : Str → Option Value) (base : Str → Option Value) (most len : Int) (ll nm x3 d3 x2 d2 x1 d1 ds de dv f cq nl : Addr) (t1 t2 t3 t4 t5 t6 t7 t8 tm tl u1 tA qm ql : Tok) (fo co oq : Obj) (ps : Array Value) (now : Int) (tn : Tok) (log : List (Int × Int)) (lvs : List Value) (ln : Nat) (os oe : Obj) (kvs kve : List (Str × Value)) (c1 c2 : List (Str × Int)) (l : Addr) (vs : List Value) (tl1 : List (Addr × Obj)) : Prop where
  F : Fr (ghostOf s₁.heap [(576, 572)]) s₁.heap.objs.size h (fun y => if y = Str.ofString "log" then some (.ref ll) else if y = Str.ofString "names" then some (.ref nm) else if y = Str.ofString "item" then some (.ref x3) else if y = Str.ofString "limiter" then some (.ref x2) else if y = Str.ofString "most" then some (.int most qm) else if y = Str.ofString "length" then some (.int len ql) else base y)
  N : News (ghostOf s₁.heap [(576, 572)]) s₁.heap.objs.size h ((ds, os) :: (de, oe) :: (ll, listOf lvs.toArray ln) :: (nl, listOf #[.int now tn] 0) :: (l, listOf vs.toArray 0) :: (nm, tupK [.str (Str.ofString "ann") tA].toArray 0) :: (x3, instObj 423 d3) :: (d3, dictOf [⟨PySem.PyData.keyHash w.params (Str.ofString "namespace"), .str (Str.ofString "namespace") t5, .str (Str.ofString "LIMITER") t8⟩, ⟨PySem.PyData.keyHash w.params (Str.ofString "amount"), .str (Str.ofString "amount") t6, .int most tm⟩, ⟨PySem.PyData.keyHash w.params (Str.ofString "multiples"), .str (Str.ofString "multiples") t7, .int len tl⟩] 3) :: (x2, instObj 218 d2) :: (d2, dictOf [⟨PySem.PyData.keyHash w.params (Str.ofString "storage"), .str (Str.ofString "storage") u1, .ref x1⟩] 1) :: (x1, instObj 568 d1) :: (d1, dictOf [⟨PySem.PyData.keyHash w.params (Str.ofString "clock"), .str (Str.ofString "clock") t1, .ref f⟩, ⟨PySem.PyData.keyHash w.params (Str.ofString "storage"), .str (Str.ofString "storage") t2, .ref ds⟩, ⟨PySem.PyData.keyHash w.params (Str.ofString "expirations"), .str (Str.ofString "expirations") t3, .ref de⟩, ⟨PySem.PyData.keyHash w.params (Str.ofString "events"), .str (Str.ofString "events") t4, .ref dv⟩] 4) :: (f, fo) :: (cq, oq) :: (s₁.heap.objs.size + 1, co) :: (572, tabObj ps) :: tl1)
  fr : Frame w s₀ s₁ p loose mean mg mb base most len ll nm x3 d3 x2 d2 x1 d1 ds de dv f cq nl t1 t2 t3 t4 t5 t6 t7 t8 tm tl u1 tA qm ql fo co oq ps
  hs : os.IsDictOf (strKind PG w) kvs
  fs : FlatPairs PyData.str kvs (kdpD c1)
  he : oe.IsDictOf (strKind PG w) kve
  fe : FlatPairs PyData.str kve (kdpD c2)
  hlog : DatAll ((l, listOf vs.toArray 0) :: (nm, tupK [.str (Str.ofString "ann") tA].toArray 0) :: (x3, instObj 423 d3) :: (d3, dictOf [⟨PySem.PyData.keyHash w.params (Str.ofString "namespace"), .str (Str.ofString "namespace") t5, .str (Str.ofString "LIMITER") t8⟩, ⟨PySem.PyData.keyHash w.params (Str.ofString "amount"), .str (Str.ofString "amount") t6, .int most tm⟩, ⟨PySem.PyData.keyHash w.params (Str.ofString "multiples"), .str (Str.ofString "multiples") t7, .int len tl⟩] 3) :: (x2, instObj 218 d2) :: (d2, dictOf [⟨PySem.PyData.keyHash w.params (Str.ofString "storage"), .str (Str.ofString "storage") u1, .ref x1⟩] 1) :: (x1, instObj 568 d1) :: (d1, dictOf [⟨PySem.PyData.keyHash w.params (Str.ofString "clock"), .str (Str.ofString "clock") t1, .ref f⟩, ⟨PySem.PyData.keyHash w.params (Str.ofString "storage"), .str (Str.ofString "storage") t2, .ref ds⟩, ⟨PySem.PyData.keyHash w.params (Str.ofString "expirations"), .str (Str.ofString "expirations") t3, .ref de⟩, ⟨PySem.PyData.keyHash w.params (Str.ofString "events"), .str (Str.ofString "events") t4, .ref dv⟩] 4) :: (f, fo) :: (cq, oq) :: (s₁.heap.objs.size + 1, co) :: (572, tabObj ps) :: tl1) lvs (logDat log)
  off : OwnOff tl1 (ds :: de :: ll :: nl :: l :: [(nm, tupK [.str (Str.ofString "ann") tA].toArray 0), (x3, instObj 423 d3), (d3, dictOf [⟨PySem.PyData.keyHash w.params (Str.ofString "namespace"), .str (Str.ofString "namespace") t5, .str (Str.ofString "LIMITER") t8⟩, ⟨PySem.PyData.keyHash w.params (Str.ofString "amount"), .str (Str.ofString "amount") t6, .int most tm⟩, ⟨PySem.PyData.keyHash w.params (Str.ofString "multiples"), .str (Str.ofString "multiples") t7, .int len tl⟩] 3), (x2, instObj 218 d2), (d2, dictOf [⟨PySem.PyData.keyHash w.params (Str.ofString "storage"), .str (Str.ofString "storage") u1, .ref x1⟩] 1), (x1, instObj 568 d1), (d1, dictOf [⟨PySem.PyData.keyHash w.params (Str.ofString "clock"), .str (Str.ofString "clock") t1, .ref f⟩, ⟨PySem.PyData.keyHash w.params (Str.ofString "storage"), .str (Str.ofString "storage") t2, .ref ds⟩, ⟨PySem.PyData.keyHash w.params (Str.ofString "expirations"), .str (Str.ofString "expirations") t3, .ref de⟩, ⟨PySem.PyData.keyHash w.params (Str.ofString "events"), .str (Str.ofString "events") t4, .ref dv⟩] 4), (f, fo), (cq, oq), (s₁.heap.objs.size + 1, co), (572, tabObj ps)].map (·.1))
  tab : Tab len most (keyOf most len) log c1 c2
  lok : LogOk now log
  wt : Wt len log now ≤ most
  l12 : log.length ≤ 12
  n0 : 1000000 ≤ now
  n9 : now ≤ 1002000000
  ch2 : @LT.lt Nat _ ll l
theorem fr_swap1 {h₀ h : Heap} {L : Addr} {u base : Str → Option Value} {ll nm x3 x2 : Addr} {most len : Int} {qm ql : Tok} (F : Fr h₀ L h (fun y => if y = Str.ofString "number" then u y else if [Str.ofString "cost"].contains y then u y else if y = Str.ofString "log" then some (.ref ll) else if y = Str.ofString "names" then some (.ref nm) else if y = Str.ofString "item" then some (.ref x3) else if y = Str.ofString "limiter" then some (.ref x2) else if y = Str.ofString "most" then some (.int most qm) else if y = Str.ofString "length" then some (.int len ql) else base y)) :
    Fr h₀ L h (fun y => (fun base => if y = Str.ofString "log" then some (.ref ll) else if y = Str.ofString "names" then some (.ref nm) else if y = Str.ofString "item" then some (.ref x3) else if y = Str.ofString "limiter" then some (.ref x2) else if y = Str.ofString "most" then some (.int most qm) else if y = Str.ofString "length" then some (.int len ql) else base y) (fun y => if y = Str.ofString "number" then u y else if y = Str.ofString "cost" then u y else base y)) := by
  have e : (fun y => if y = Str.ofString "number" then u y else if [Str.ofString "cost"].contains y then u y else if y = Str.ofString "log" then some (.ref ll) else if y = Str.ofString "names" then some (.ref nm) else if y = Str.ofString "item" then some (.ref x3) else if y = Str.ofString "limiter" then some (.ref x2) else if y = Str.ofString "most" then some (.int most qm) else if y = Str.ofString "length" then some (.int len ql) else base y) = (fun y => (fun base : Str → Option Value => if y = Str.ofString "log" then some (.ref ll) else if y = Str.ofString "names" then some (.ref nm) else if y = Str.ofString "item" then some (.ref x3) else if y = Str.ofString "limiter" then some (.ref x2) else if y = Str.ofString "most" then some (.int most qm) else if y = Str.ofString "length" then some (.int len ql) else base y) (fun y => if y = Str.ofString "number" then u y else if y = Str.ofString "cost" then u y else base y)) := by
    funext y
    dsimp only
    by_cases h1 : y = Str.ofString "number"
    · subst h1
      rw [if_pos rfl, if_neg (by decide +kernel), if_neg (by decide +kernel), if_neg (by decide +kernel), if_neg (by decide +kernel), if_neg (by decide +kernel), if_neg (by decide +kernel), if_pos rfl]
    · by_cases h2 : y = Str.ofString "cost"
      · subst h2
        rw [if_neg h1, if_pos (by decide +kernel), if_neg (by decide +kernel), if_neg (by decide +kernel), if_neg (by decide +kernel), if_neg (by decide +kernel), if_neg (by decide +kernel), if_neg (by decide +kernel), if_neg h1, if_pos rfl]
      · rw [if_neg h1, if_neg h1, if_neg h2, if_neg (by simpa using h2)]
  rw [e] at F
  exact F
theorem in_done {a b c d : Addr × Obj} {l : List (Addr × Obj)} : ∀ p ∈ a :: b :: c :: d :: l, p ∈ a :: b :: c :: d :: l := fun _ h => h

section
local macro_rules | `(tactic| walk_at "use common") => `(tactic| (walk_at "use commonZ"; (case N => first | k_asm | ktn_no "use: N")))
local macro_rules | `(tactic| walk_at "use commonZ") => `(tactic| (
  (case B => first | k_asm | ktn_no "use: B")
  (case F => first | k_asm | ktn_no "use: F")
  (case X => first | k_asm | ktn_no "use: X")
  (case T => first | k_asm | ktn_no "use: T")
  (case hk => first | exact rfl | assumption | ktn_no "use: hk")
  (case hd => first | ktr_room | ktn_no "use: hd")
  (case hu => first | ktr_units | ktn_no "use: hu")))
local macro_rules | `(tactic| walk_at "exec For") => `(tactic| (k_here; (with_reducible show wpAny _ _ (exec (Stmt.For (Expr.Name _ _) (Expr.Subscript _ _ _) _ [] _) _) _ _ _); (rename Fr _ _ _ _ => F9); (with_unfolding_all refine For_invVF F9 (by rfl) (by rfl) ?_)))
local macro_rules | `(tactic| walk_at "call ref") => `(tactic| (k_here; (with_reducible show wpAny _ _ (call (Value.ref 188) _ _) _ _ _); k_dflt ((show wpAny _ _ (call (Value.ref 188) [Value.ref _, Value.ref _, Value.ref _, Value.int _ _]) _ _ _); refine' hit_spec rfl ?r1 ?r2 ?r3 ?B ?F ?X ?N ?T ?hk ?hd ?hu ?hC ?n1 ?n2 ?n5 ?n6 ?n7 ?n8 ?ls ?le ?hs ?fs ?he ?fe ?i1 ?i2 ?m1 ?m2 ?i3 ?ok1 ?ok2 ?z1 ?z2 ?h0 ?h9 ?m0 ?m9 ?l0 ?l9 ?p0 ?p9 ?q0 ?q9 ?_ ?_; (case hC => assumption); walk_at "use commonZ"; (case N => first | k_asm | ktn_no "hit: N"); (case n1 => first | k_mem | ktn_no "hit: n1"); (case n2 => first | k_mem | ktn_no "hit: n2"); (case n5 => first | k_mem | ktn_no "hit: n5"); (case n6 => first | k_mem | ktn_no "hit: n6"); (case n7 => first | k_mem | ktn_no "hit: n7"); (case n8 => first | k_mem | ktn_no "hit: n8"); (case i1 => first | k_mem | ktn_no "hit: i1"); (case i2 => first | k_mem | ktn_no "hit: i2"); (case m1 => first | k_mem | ktn_no "hit: m1"); (case m2 => first | k_mem | ktn_no "hit: m2"); (case i3 => first | k_mem | ktn_no "hit: i3"); (case ls => first | assumption | ktn_no "hit: ls"); (case le => first | assumption | ktn_no "hit: le"); (case hs => first | assumption | ktn_no "hit: hs"); (case fs => first | assumption | ktn_no "hit: fs"); (case he => first | assumption | ktn_no "hit: he"); (case fe => first | assumption | ktn_no "hit: fe"); (case ok1 => first | assumption | ktn_no "hit: ok1"); (case ok2 => first | assumption | ktn_no "hit: ok2"); (case z1 => first | assumption | ktn_no "hit: z1"); (case z2 => first | assumption | ktn_no "hit: z2"); (case h0 => first | assumption | ktn_no "hit: h0"); (case h9 => first | assumption | ktn_no "hit: h9"); (case m0 => first | assumption | ktn_no "hit: m0"); (case m9 => first | assumption | ktn_no "hit: m9"); (case l0 => first | assumption | ktn_no "hit: l0"); (case l9 => first | assumption | ktn_no "hit: l9"); (case p0 => first | assumption | ktn_no "hit: p0"); (case p9 => first | assumption | ktn_no "hit: p9"); (case q0 => first | assumption | ktn_no "hit: q0"); (case q9 => first | assumption | ktn_no "hit: q9"); (case r3 => first | assumption | omega | ktn_no "hit: r3"); (case r1 => first | (repeat' (first | assumption | (refine ane_cons (by (dsimp only; omega)) ?_))) | ktn_no "hit: r1"); (case r2 => first | (repeat' (first | assumption | (refine ane_cons (by (dsimp only; omega)) ?_))) | ktn_no "hit: r2")); (all_goals (first | (intro ha9 hw9 os9 oe9 kvs9 kve9 c9 h9 tk9 hd9 hf9 hd8 hf8 hc9 F' N'; (try dsimp only)) | (intro hw9 h9 tk9 F' N'; (try dsimp only))))))
local macro_rules | `(tactic| walk_at "call builtin:list.append") => `(tactic| (k_here; (show wpAny _ _ (call (Value.builtin "list.append") [Value.ref _, _]) _ _ _); k_dflt (refine' append_K ?k1 ?k2 ?k3 ?_ ?z; (case k1 => k_asm); (case k2 => k_asm); (case k3 => k_upd); (case z => assumption); k_whole); intro h' F' N'))
-- macs: C0 F0 L0
set_option maxHeartbeats 8000000 in
noncomputable def W2 : PSigma fun G : World → Shared → Shared → Addr → List Int → Nat → Heap → Prop =>
    (Wrap (∀ (w : World) (s₀ s₁ : Shared) (fa : Addr) (ns : List Int) (tk : Nat) (h : Heap) (p : Program) (loose : List Str) (mean : ExcName → Option Value) (mg mb : Str → Option Value) (base : Str → Option Value) (most len : Int) (ll nm x3 d3 x2 d2 x1 d1 ds de dv f cq nl : Addr) (t1 t2 t3 t4 t5 t6 t7 t8 tm tl u1 tA qm ql : Tok) (fo co oq : Obj) (ps : Array Value) (now : Int) (tn : Tok) (log : List (Int × Int)) (lvs : List Value) (ln : Nat) (os oe : Obj) (kvs kve : List (Str × Value)) (c1 c2 : List (Str × Int)) (l : Addr) (vs : List Value) (tl1 : List (Addr × Obj)),
      After1 w s₀ s₁ h p loose mean mg mb base most len ll nm x3 d3 x2 d2 x1 d1 ds de dv f cq nl t1 t2 t3 t4 t5 t6 t7 t8 tm tl u1 tA qm ql fo co oq ps now tn log lvs ln os oe kvs kve c1 c2 l vs tl1 → G w s₀ s₁ fa ns tk h)) →
    ∀ (w : World) (s₀ s₁ : Shared) (fa : Addr) (ns : List Int) (tk : Nat) (l : Addr) (h : Heap) (p : Program) (loose : List Str) (mean : ExcName → Option Value) (mg mb : Str → Option Value) (base : Str → Option Value) (most len : Int) (ll nm x3 d3 x2 d2 x1 d1 ds de dv f cq nl : Addr) (t1 t2 t3 t4 t5 t6 t7 t8 tm tl u1 tA qm ql : Tok) (fo co oq : Obj) (ps : Array Value) (now0 : Int) (tn : Tok) (os oe : Obj) (vs : List Value) (xs : List Int), Start1 w s₀ s₁ l h p loose mean mg mb base most len ll nm x3 d3 x2 d2 x1 d1 ds de dv f cq nl t1 t2 t3 t4 t5 t6 t7 t8 tm tl u1 tA qm ql fo co oq ps now0 tn os oe vs xs → W1.2.1 w s₀ s₁ fa ns tk l h := by
  refine' ⟨_, fun hR => _⟩
  rotate_left
  · intro w s₀ s₁ fa ns tk l h p loose mean mg mb base most len ll nm x3 d3 x2 d2 x1 d1 ds de dv f cq nl t1 t2 t3 t4 t5 t6 t7 t8 tm tl u1 tA qm ql fo co oq ps now0 tn os oe vs xs hS
    obtain ⟨F, N, fr, hs, he, hi, hx, ch2, n0, n9⟩ := hS
    obtain ⟨B, X, T, hg, hC, hd, ls, le, ch, m0, m9, l0, l9⟩ := fr
    intro _
    w_on
    revert X; (have hM : PySem.Challenge.rw_ji0057_01.name = PySem.Challenge.rw_ji0057_01.name := rfl); revert hM; k_fill; intro hM X; clear hM
    refine loop1 (ds := ds) (de := de) (ll := ll) (nl := nl) ((l, listOf vs.toArray 0) :: [(nm, tupK [.str (Str.ofString "ann") tA].toArray 0), (x3, instObj 423 d3), (d3, dictOf [⟨PySem.PyData.keyHash w.params (Str.ofString "namespace"), .str (Str.ofString "namespace") t5, .str (Str.ofString "LIMITER") t8⟩, ⟨PySem.PyData.keyHash w.params (Str.ofString "amount"), .str (Str.ofString "amount") t6, .int most tm⟩, ⟨PySem.PyData.keyHash w.params (Str.ofString "multiples"), .str (Str.ofString "multiples") t7, .int len tl⟩] 3), (x2, instObj 218 d2), (d2, dictOf [⟨PySem.PyData.keyHash w.params (Str.ofString "storage"), .str (Str.ofString "storage") u1, .ref x1⟩] 1), (x1, instObj 568 d1), (d1, dictOf [⟨PySem.PyData.keyHash w.params (Str.ofString "clock"), .str (Str.ofString "clock") t1, .ref f⟩, ⟨PySem.PyData.keyHash w.params (Str.ofString "storage"), .str (Str.ofString "storage") t2, .ref ds⟩, ⟨PySem.PyData.keyHash w.params (Str.ofString "expirations"), .str (Str.ofString "expirations") t3, .ref de⟩, ⟨PySem.PyData.keyHash w.params (Str.ofString "events"), .str (Str.ofString "events") t4, .ref dv⟩] 4), (f, fo), (cq, oq), (s₁.heap.objs.size + 1, co), (572, tabObj ps)]) [Str.ofString "cost"] (Inv1 len most now0 (keyOf most len)) ⟨now0, tn, [], [], 0, os, oe, [], [], [], []⟩ ?hh List.mem_cons_self hi F N ?hn ⟨hs, .nil, he, .nil, .nil⟩ (Inv1.start (by omega)) ?turn ?done
    case hh => rfl
    case hn => intro p hp; simpa using hp
    case turn =>
      intro c tl pre post n t u h tk own e1 hsep hoff hf hinv F' N'
      have hz := log_size hinv e1 hx hf.2.2.2.2
      obtain ⟨now, tn, log, lvs, ln, os, oe, kvs, kve, c1, c2⟩ := c
      obtain ⟨hs, fs, he, fe, hlog⟩ := hf
      dsimp only [Led1, List.cons_append, List.nil_append] at N' hs fs he fe hlog hz
      have ml := mod_bd (n := n) l0 l9
      have cl := cost_bd (Int.fdiv n (len + 1))
      obtain ⟨⟨ok1, ok2, p0, p9, q0, q9⟩, z1, z2, h0, h9⟩ := turn1 hinv e1 hx n0 n9 l0 m9 ml.1 ml.2
      have od : ∀ p ∈ tl ++ own, p.1 ≠ ds := hoff.ne (by simp)
      have oe' : ∀ p ∈ tl ++ own, p.1 ≠ de := hoff.ne (by simp)
      have r3 : @Ne Nat ds de := by omega
      clear F N
      w_strict k_steps
      · refine' kd_end ⟨now + Int.fmod n (len + 1), _, log, lvs, ln, os, oe, kvs, kve, c1, c2⟩ [] hsep ?kF ?kN ?kn ?ko rfl (fun _ h => nomatch h) (fun _ h => nomatch h) (fun _ h => nomatch h) ?kr ?kf ?kp
        case kF => assumption
        case kN => assumption
        case kn => exact in_all0
        case ko => (intro p hp; repeat (first | exact List.mem_append_right _ hp | refine List.mem_cons_of_mem _ ?_))
        case kr => kst_same
        case kf => exact ⟨hs, fs, he, fe, hlog⟩
        case kp => exact hinv.miss l0 (by omega) (by omega)
      · simp only [List.push_toArray, one_getD] at *
        refine' kd_end (⟨now + Int.fmod n (len + 1), _, log ++ [(now + Int.fmod n (len + 1), 1 + Int.fmod (Int.fdiv n (len + 1)) 3)], _, _, _, _, _, _, _, _⟩ : LS) [_] hsep ?kF ?kN ?kn ?ko rfl ?kb ?kw ?kk ?kr ?kf ?kp
        case kF => assumption
        case kN => assumption
        case kn => exact in_all1
        case ko => (intro p hp; repeat (first | exact List.mem_append_right _ hp | refine List.mem_cons_of_mem _ ?_))
        case kk => (intro _ h; nomatch h)
        case kb => kd_addB
        case kw => kd_addW
        case kr => kst_same
        case kf => exact ⟨by assumption, by assumption, by assumption, by assumption, log_snoc (hlog.mono kd_sub) (kd_new List.mem_cons_self)⟩
        case kp => exact hinv.hit l0 (by omega) (by omega) n0 cl.1 cl.2 (by assumption) (by assumption)
    case done =>
      intro c tl1 u h tk9 hoff hf hinv F' N'
      have hx0 := hinv.nl
      have hx1 := hinv.lo
      have hx2 := hinv.hi
      obtain ⟨now, tn, log, lvs, ln, os, oe, kvs, kve, c1, c2⟩ := c
      obtain ⟨hs, fs, he, fe, hlog⟩ := hf
      dsimp only at hx0 hx1 hx2
      have k := hR.out w s₀ s₁ fa ns tk9 h p loose mean mg mb _ most len ll nm x3 d3 x2 d2 x1 d1 ds de dv f cq nl t1 t2 t3 t4 t5 t6 t7 t8 tm tl u1 tA qm ql fo co oq ps now tn log lvs ln os oe kvs kve c1 c2 l vs tl1
        ⟨fr_swap1 F', N', ⟨B, X, T, hg, hC, hd, ls, le, ch, m0, m9, l0, l9⟩, hs, fs, he, fe, hlog, hoff, hinv.tab, hinv.log, hinv.wt, by omega, by omega, by omega, ch2⟩
      have ht : True := trivial
      dsimp only
      revert ht
      exact k

end
/-- the law's state ahead of its second loop -/
structure Start2 (w : World) (s₀ s₁ : Shared) (r : Addr) (h : Heap) (p : Program) (loose : List Str) (mean : ExcName → Option Value) (mg mb : Str → Option Value) (base : Str → Option Value) (most len : Int) (ll nm x3 d3 x2 d2 x1 d1 ds de dv f cq nl : Addr) (t1 t2 t3 t4 t5 t6 t7 t8 tm tl u1 tA qm ql : Tok) (fo co oq : Obj) (ps : Array Value) (now : Int) (tn : Tok) (log : List (Int × Int)) (lvs : List Value) (ln : Nat) (os oe : Obj) (kvs kve : List (Str × Value)) (c1 c2 : List (Str × Int)) (l : Addr) (vs : List Value) (tl1 : List (Addr × Obj)) (rl : Addr) (ra rb rc : Tok) : Prop where
  F : Fr (ghostOf s₁.heap [(576, 572)]) s₁.heap.objs.size h (fun y => if y = Str.ofString "rows" then some (.ref rl) else if y = Str.ofString "log" then some (.ref ll) else if y = Str.ofString "names" then some (.ref nm) else if y = Str.ofString "item" then some (.ref x3) else if y = Str.ofString "limiter" then some (.ref x2) else if y = Str.ofString "most" then some (.int most qm) else if y = Str.ofString "length" then some (.int len ql) else base y)
  N : News (ghostOf s₁.heap [(576, 572)]) s₁.heap.objs.size h ((nl, listOf #[.int now tn] 0) :: (rl, listOf #[] 0) :: (ds, os) :: (de, oe) :: (ll, listOf lvs.toArray ln) :: (l, listOf vs.toArray 0) :: (nm, tupK [.str (Str.ofString "ann") tA].toArray 0) :: (x3, instObj 423 d3) :: (d3, dictOf [⟨PySem.PyData.keyHash w.params (Str.ofString "namespace"), .str (Str.ofString "namespace") t5, .str (Str.ofString "LIMITER") t8⟩, ⟨PySem.PyData.keyHash w.params (Str.ofString "amount"), .str (Str.ofString "amount") t6, .int most tm⟩, ⟨PySem.PyData.keyHash w.params (Str.ofString "multiples"), .str (Str.ofString "multiples") t7, .int len tl⟩] 3) :: (x2, instObj 218 d2) :: (d2, dictOf [⟨PySem.PyData.keyHash w.params (Str.ofString "storage"), .str (Str.ofString "storage") u1, .ref x1⟩] 1) :: (x1, instObj 568 d1) :: (d1, dictOf [⟨PySem.PyData.keyHash w.params (Str.ofString "clock"), .str (Str.ofString "clock") t1, .ref f⟩, ⟨PySem.PyData.keyHash w.params (Str.ofString "storage"), .str (Str.ofString "storage") t2, .ref ds⟩, ⟨PySem.PyData.keyHash w.params (Str.ofString "expirations"), .str (Str.ofString "expirations") t3, .ref de⟩, ⟨PySem.PyData.keyHash w.params (Str.ofString "events"), .str (Str.ofString "events") t4, .ref dv⟩] 4) :: (f, fo) :: (cq, oq) :: (s₁.heap.objs.size + 1, co) :: (572, tabObj ps) :: tl1)
  fr : Frame w s₀ s₁ p loose mean mg mb base most len ll nm x3 d3 x2 d2 x1 d1 ds de dv f cq nl t1 t2 t3 t4 t5 t6 t7 t8 tm tl u1 tA qm ql fo co oq ps
  hr : IsRange h r 0 (2 * len + 1) 1 ra rb rc
  hs : os.IsDictOf (strKind PG w) kvs
  fs : FlatPairs PyData.str kvs (kdpD c1)
  he : oe.IsDictOf (strKind PG w) kve
  fe : FlatPairs PyData.str kve (kdpD c2)
  hlog : DatAll ((l, listOf vs.toArray 0) :: (nm, tupK [.str (Str.ofString "ann") tA].toArray 0) :: (x3, instObj 423 d3) :: (d3, dictOf [⟨PySem.PyData.keyHash w.params (Str.ofString "namespace"), .str (Str.ofString "namespace") t5, .str (Str.ofString "LIMITER") t8⟩, ⟨PySem.PyData.keyHash w.params (Str.ofString "amount"), .str (Str.ofString "amount") t6, .int most tm⟩, ⟨PySem.PyData.keyHash w.params (Str.ofString "multiples"), .str (Str.ofString "multiples") t7, .int len tl⟩] 3) :: (x2, instObj 218 d2) :: (d2, dictOf [⟨PySem.PyData.keyHash w.params (Str.ofString "storage"), .str (Str.ofString "storage") u1, .ref x1⟩] 1) :: (x1, instObj 568 d1) :: (d1, dictOf [⟨PySem.PyData.keyHash w.params (Str.ofString "clock"), .str (Str.ofString "clock") t1, .ref f⟩, ⟨PySem.PyData.keyHash w.params (Str.ofString "storage"), .str (Str.ofString "storage") t2, .ref ds⟩, ⟨PySem.PyData.keyHash w.params (Str.ofString "expirations"), .str (Str.ofString "expirations") t3, .ref de⟩, ⟨PySem.PyData.keyHash w.params (Str.ofString "events"), .str (Str.ofString "events") t4, .ref dv⟩] 4) :: (f, fo) :: (cq, oq) :: (s₁.heap.objs.size + 1, co) :: (572, tabObj ps) :: tl1) lvs (logDat log)
  off : OwnOff tl1 (ds :: de :: ll :: nl :: l :: [(nm, tupK [.str (Str.ofString "ann") tA].toArray 0), (x3, instObj 423 d3), (d3, dictOf [⟨PySem.PyData.keyHash w.params (Str.ofString "namespace"), .str (Str.ofString "namespace") t5, .str (Str.ofString "LIMITER") t8⟩, ⟨PySem.PyData.keyHash w.params (Str.ofString "amount"), .str (Str.ofString "amount") t6, .int most tm⟩, ⟨PySem.PyData.keyHash w.params (Str.ofString "multiples"), .str (Str.ofString "multiples") t7, .int len tl⟩] 3), (x2, instObj 218 d2), (d2, dictOf [⟨PySem.PyData.keyHash w.params (Str.ofString "storage"), .str (Str.ofString "storage") u1, .ref x1⟩] 1), (x1, instObj 568 d1), (d1, dictOf [⟨PySem.PyData.keyHash w.params (Str.ofString "clock"), .str (Str.ofString "clock") t1, .ref f⟩, ⟨PySem.PyData.keyHash w.params (Str.ofString "storage"), .str (Str.ofString "storage") t2, .ref ds⟩, ⟨PySem.PyData.keyHash w.params (Str.ofString "expirations"), .str (Str.ofString "expirations") t3, .ref de⟩, ⟨PySem.PyData.keyHash w.params (Str.ofString "events"), .str (Str.ofString "events") t4, .ref dv⟩] 4), (f, fo), (cq, oq), (s₁.heap.objs.size + 1, co), (572, tabObj ps)].map (·.1))
  offr : ∀ p ∈ tl1, p.1 ≠ rl
  tab : Tab len most (keyOf most len) log c1 c2
  lok : LogOk now log
  wt : Wt len log now ≤ most
  l12 : log.length ≤ 12
  n0 : 1000000 ≤ now
  n9 : now ≤ 1002000001
  md : now % len ≠ 0
  ch2 : @LT.lt Nat _ ll l
  ch3 : @LT.lt Nat _ l rl
theorem gen_at {M : Model} {A : Around} {K : Value → Shared → Prop} {E : Value → Shared → Prop} {r0 : Addr} {tk0 : Nat} {h : Heap} {g : Array GenState} {d : Drawn} {os : OsState} {a b c : Int} {t u v : Tok} (hr : IsRange h r0 a b c t u v)
    (H : ∀ r tk, IsRange h r a b c t u v → wpAny M A (pyIter (.ref r)) K E ⟨h, g, d, tk, os⟩) : wpAny M A (pyIter (.ref r0)) K E ⟨h, g, d, tk0, os⟩ := H r0 tk0 hr
theorem swap2 {h₀ : Heap} {L : Addr} {h : Heap} {a b c d e : Addr × Obj} {tl : List (Addr × Obj)} (N : News h₀ L h (a :: b :: c :: d :: e :: tl)) : News h₀ L h (e :: a :: b :: c :: d :: tl) := by
  refine cb_drop N fun p hp => ?_
  simp only [List.mem_cons] at hp ⊢
  rcases hp with h | h | h | h | h | h <;> simp [h]
theorem mod_next {len now : Int} (l0 : 2 ≤ len) (h : Int.fmod now len = 0) : (now + 1) % len ≠ 0 := by
  rw [Int.fmod_eq_emod_of_nonneg _ (by omega)] at h
  have := next_same (t := now) l0 (by omega)
  omega
theorem mod_this {len now : Int} (l0 : 2 ≤ len) (h : Int.fmod now len ≠ 0) : now % len ≠ 0 := by
  rw [Int.fmod_eq_emod_of_nonneg _ (by omega)] at h
  exact h

section
local macro_rules | `(tactic| walk_at "use common") => `(tactic| (walk_at "use commonZ"; (case N => first | k_asm | ktn_no "use: N")))
local macro_rules | `(tactic| walk_at "use commonZ") => `(tactic| (
  (case B => first | k_asm | ktn_no "use: B")
  (case F => first | k_asm | ktn_no "use: F")
  (case X => first | k_asm | ktn_no "use: X")
  (case T => first | k_asm | ktn_no "use: T")
  (case hk => first | exact rfl | assumption | ktn_no "use: hk")
  (case hd => first | ktr_room | ktn_no "use: hd")
  (case hu => first | ktr_units | ktn_no "use: hu")))
local macro_rules | `(tactic| walk_at "exec For") => `(tactic| (k_here; (with_reducible show wpAny _ _ (exec (Stmt.For (Expr.Name _ _) (Expr.Subscript _ _ _) _ [] _) _) _ _ _); (rename Fr _ _ _ _ => F9); (with_unfolding_all refine For_invVF F9 (by rfl) (by rfl) ?_)))
local macro_rules | `(tactic| walk_at "call ref") => `(tactic| (k_here; (with_reducible show wpAny _ _ (call (Value.ref 188) _ _) _ _ _); k_dflt ((show wpAny _ _ (call (Value.ref 188) [Value.ref _, Value.ref _, Value.ref _, Value.int _ _]) _ _ _); refine' hit_spec rfl ?r1 ?r2 ?r3 ?B ?F ?X ?N ?T ?hk ?hd ?hu ?hC ?n1 ?n2 ?n5 ?n6 ?n7 ?n8 ?ls ?le ?hs ?fs ?he ?fe ?i1 ?i2 ?m1 ?m2 ?i3 ?ok1 ?ok2 ?z1 ?z2 ?h0 ?h9 ?m0 ?m9 ?l0 ?l9 ?p0 ?p9 ?q0 ?q9 ?_ ?_; (case hC => assumption); walk_at "use commonZ"; (case N => first | k_asm | ktn_no "hit: N"); (case n1 => first | k_mem | ktn_no "hit: n1"); (case n2 => first | k_mem | ktn_no "hit: n2"); (case n5 => first | k_mem | ktn_no "hit: n5"); (case n6 => first | k_mem | ktn_no "hit: n6"); (case n7 => first | k_mem | ktn_no "hit: n7"); (case n8 => first | k_mem | ktn_no "hit: n8"); (case i1 => first | k_mem | ktn_no "hit: i1"); (case i2 => first | k_mem | ktn_no "hit: i2"); (case m1 => first | k_mem | ktn_no "hit: m1"); (case m2 => first | k_mem | ktn_no "hit: m2"); (case i3 => first | k_mem | ktn_no "hit: i3"); (case ls => first | assumption | ktn_no "hit: ls"); (case le => first | assumption | ktn_no "hit: le"); (case hs => first | assumption | ktn_no "hit: hs"); (case fs => first | assumption | ktn_no "hit: fs"); (case he => first | assumption | ktn_no "hit: he"); (case fe => first | assumption | ktn_no "hit: fe"); (case ok1 => first | assumption | ktn_no "hit: ok1"); (case ok2 => first | assumption | ktn_no "hit: ok2"); (case z1 => first | assumption | ktn_no "hit: z1"); (case z2 => first | assumption | ktn_no "hit: z2"); (case h0 => first | assumption | ktn_no "hit: h0"); (case h9 => first | assumption | ktn_no "hit: h9"); (case m0 => first | assumption | ktn_no "hit: m0"); (case m9 => first | assumption | ktn_no "hit: m9"); (case l0 => first | assumption | ktn_no "hit: l0"); (case l9 => first | assumption | ktn_no "hit: l9"); (case p0 => first | assumption | ktn_no "hit: p0"); (case p9 => first | assumption | ktn_no "hit: p9"); (case q0 => first | assumption | ktn_no "hit: q0"); (case q9 => first | assumption | ktn_no "hit: q9"); (case r3 => first | assumption | omega | ktn_no "hit: r3"); (case r1 => first | (repeat' (first | assumption | (refine ane_cons (by (dsimp only; omega)) ?_))) | ktn_no "hit: r1"); (case r2 => first | (repeat' (first | assumption | (refine ane_cons (by (dsimp only; omega)) ?_))) | ktn_no "hit: r2")); (all_goals (first | (intro ha9 hw9 os9 oe9 kvs9 kve9 c9 h9 tk9 hd9 hf9 hd8 hf8 hc9 F' N'; (try dsimp only)) | (intro hw9 h9 tk9 F' N'; (try dsimp only))))))
local macro_rules | `(tactic| walk_at "call builtin:list.append") => `(tactic| (k_here; (show wpAny _ _ (call (Value.builtin "list.append") [Value.ref _, _]) _ _ _); k_dflt (refine' append_K ?k1 ?k2 ?k3 ?_ ?z; (case k1 => k_asm); (case k2 => k_asm); (case k3 => k_upd); (case z => assumption); k_whole); intro h' F' N'))
-- macs: C0 F0 L0
theorem allLt_ne {d : Addr} : ∀ {l : List (Addr × Obj)}, AllLt d l → ∀ p ∈ l, p.1 ≠ d
  | [], _, _, h => nomatch h
  | _ :: _, k, p, h => by
    rcases List.mem_cons.mp h with e | h
    · subst e; exact Nat.ne_of_lt k.1
    · exact allLt_ne k.2 p h
set_option maxHeartbeats 8000000 in
noncomputable def W3 : PSigma fun G : World → Shared → Shared → Addr → List Int → Nat → Addr → Heap → Prop =>
    (Wrap (∀ (w : World) (s₀ s₁ : Shared) (fa : Addr) (ns : List Int) (tk : Nat) (r : Addr) (h : Heap) (p : Program) (loose : List Str) (mean : ExcName → Option Value) (mg mb : Str → Option Value) (base : Str → Option Value) (most len : Int) (ll nm x3 d3 x2 d2 x1 d1 ds de dv f cq nl : Addr) (t1 t2 t3 t4 t5 t6 t7 t8 tm tl u1 tA qm ql : Tok) (fo co oq : Obj) (ps : Array Value) (now : Int) (tn : Tok) (log : List (Int × Int)) (lvs : List Value) (ln : Nat) (os oe : Obj) (kvs kve : List (Str × Value)) (c1 c2 : List (Str × Int)) (l : Addr) (vs : List Value) (tl1 : List (Addr × Obj)) (rl : Addr) (ra rb rc : Tok),
      Start2 w s₀ s₁ r h p loose mean mg mb base most len ll nm x3 d3 x2 d2 x1 d1 ds de dv f cq nl t1 t2 t3 t4 t5 t6 t7 t8 tm tl u1 tA qm ql fo co oq ps now tn log lvs ln os oe kvs kve c1 c2 l vs tl1 rl ra rb rc → G w s₀ s₁ fa ns tk r h)) →
    ∀ (w : World) (s₀ s₁ : Shared) (fa : Addr) (ns : List Int) (tk : Nat) (h : Heap) (p : Program) (loose : List Str) (mean : ExcName → Option Value) (mg mb : Str → Option Value) (base : Str → Option Value) (most len : Int) (ll nm x3 d3 x2 d2 x1 d1 ds de dv f cq nl : Addr) (t1 t2 t3 t4 t5 t6 t7 t8 tm tl u1 tA qm ql : Tok) (fo co oq : Obj) (ps : Array Value) (now : Int) (tn : Tok) (log : List (Int × Int)) (lvs : List Value) (ln : Nat) (os oe : Obj) (kvs kve : List (Str × Value)) (c1 c2 : List (Str × Int)) (l : Addr) (vs : List Value) (tl1 : List (Addr × Obj)),
      After1 w s₀ s₁ h p loose mean mg mb base most len ll nm x3 d3 x2 d2 x1 d1 ds de dv f cq nl t1 t2 t3 t4 t5 t6 t7 t8 tm tl u1 tA qm ql fo co oq ps now tn log lvs ln os oe kvs kve c1 c2 l vs tl1 → W2.1 w s₀ s₁ fa ns tk h := by
  refine' ⟨_, fun hR => _⟩
  rotate_left
  · intro w s₀ s₁ fa ns tk h p loose mean mg mb base most len ll nm x3 d3 x2 d2 x1 d1 ds de dv f cq nl t1 t2 t3 t4 t5 t6 t7 t8 tm tl u1 tA qm ql fo co oq ps now tn log lvs ln os oe kvs kve c1 c2 l vs tl1 hS
    obtain ⟨F, N, ⟨B, X, T, hg, hC, hd, ls, le, ch, m0, m9, l0, l9⟩, hs, fs, he, fe, hlog, off, tab, lok, wt, l12, n0, n9, ch2⟩ := hS
    intro _
    w_on
    revert X; (have hM : PySem.Challenge.rw_ji0057_01.name = PySem.Challenge.rw_ji0057_01.name := rfl); revert hM; k_fill; intro hM X; clear hM
    w_strict (repeat' ((fail_if_success (with_reducible show wpAny _ _ (pyIter (Value.ref _)) (fun _ _ => LoopAtV _ _ _ _ _ _ _ _ _ _ _) _ _)); first | (k_unfold; (try dsimp only)) | (k_end; wrow_close) | walk1 | (dsimp only; walk1) | (leave1; walk_say "STEP leave1"; try dsimp only) | fail "no step"))
    all_goals (
      expose_names
      simp only [one_getD] at *
      (try dsimp only)
      refine gen_at (a := 0) (b := 2 * len + 1) (c := 1) (by assumption) fun r9 tk9 hr9 => ?_)
    · have k := hR.out w s₀ s₁ fa ns tk9 r9 _ p loose mean mg mb _ most len ll nm x3 d3 x2 d2 x1 d1 ds de dv f cq nl t1 t2 t3 t4 t5 t6 t7 t8 tm tl u1 tA qm ql fo co oq ps (now + 1) _ log lvs ln os oe kvs kve c1 c2 l vs tl1 _ _ _ _
        ⟨by assumption, swap2 (by assumption), ⟨B, X, T, hg, hC, hd, ls, le, ch, m0, m9, l0, l9⟩, hr9, hs, fs, he, fe, hlog, off, allLt_ne l1.2.2.2.2.2.2.2.2.2.2.2.2.2.2.2.2, tab, lok.later (by omega), Int.le_trans (Wt_le lok l0 (Int.le_refl _) (by omega)) wt, l12, by omega, by omega, mod_next l0 (by assumption), ch2, by omega⟩
      have ht : True := trivial
      revert ht
      exact k
    · have k := hR.out w s₀ s₁ fa ns tk9 r9 _ p loose mean mg mb _ most len ll nm x3 d3 x2 d2 x1 d1 ds de dv f cq nl t1 t2 t3 t4 t5 t6 t7 t8 tm tl u1 tA qm ql fo co oq ps now _ log lvs ln os oe kvs kve c1 c2 l vs tl1 _ _ _ _
        ⟨by assumption, swap2 (by assumption), ⟨B, X, T, hg, hC, hd, ls, le, ch, m0, m9, l0, l9⟩, hr9, hs, fs, he, fe, hlog, off, allLt_ne l1.2.2.2.2.2.2.2.2.2.2.2.2.2.2.2.2, tab, lok, wt, l12, by omega, by omega, mod_this l0 (by assumption), ch2, by omega⟩
      have ht : True := trivial
      revert ht
      exact k

end
theorem stats_law {w : World} {p : Program} {loose : List Str} {mean : ExcName → Option Value} {mg mb : Str → Option Value} {dp un : Nat} {gd : Option (List Code)} {cn : Str} {cs : Scope} {a : Addr} {ccd : Value} {cl : List (Str × Addr)} {outer : List Env} {A₀ : Around} {base h₀ : Heap} {L : Addr} {m : Str → Option Value} {s : Shared} {Q E : Value → Shared → Prop} {news : List (Addr × Obj)} {x1 d1 ds de dv f cell nl cq : Addr} {fo co oq os oe : Obj} {t1 t2 t3 t4 tn : Tok} {now : Int} {kvs kve : List (Str × Value)} {c1 c2 : List (Str × Int)} {x3 d3 : Addr} {t5 t6 t7 t8 tm tl : Tok} {most len : Int} {x2 d2 : Addr} {u1 : Tok} {nm : Addr} {tA : Tok} {n : Nat} {log : List (Int × Int)} {end0 P C : Int}
    (B : Below A₀ base outer h₀) (F : Fr h₀ L s.heap m) (X : (Mine.hd.heap_39 w.params).In h₀) (N : News h₀ L s.heap news) (T : Top p loose mean mg mb h₀) (hk : cs.kind = .function) (hd : dp + 80 < recursionLimit) (hu : un + 800 < cLine) (hC : ClockSpec w p loose mean mg mb f cell nl cq fo co oq) (n1 : (x1, instObj 568 d1) ∈ news) (n2 : (d1, dictOf [⟨PySem.PyData.keyHash w.params (Str.ofString "clock"), .str (Str.ofString "clock") t1, .ref f⟩, ⟨PySem.PyData.keyHash w.params (Str.ofString "storage"), .str (Str.ofString "storage") t2, .ref ds⟩, ⟨PySem.PyData.keyHash w.params (Str.ofString "expirations"), .str (Str.ofString "expirations") t3, .ref de⟩, ⟨PySem.PyData.keyHash w.params (Str.ofString "events"), .str (Str.ofString "events") t4, .ref dv⟩] 4) ∈ news) (n5 : (f, fo) ∈ news) (n6 : (cell, co) ∈ news) (n7 : (nl, listOf #[.int now tn] 0) ∈ news) (n8 : (cq, oq) ∈ news) (ls : (ds == sysModules) = false) (le : (de == sysModules) = false) (hs : os.IsDictOf (strKind PG w) kvs) (fs : FlatPairs PyData.str kvs (kdpD c1)) (he : oe.IsDictOf (strKind PG w) kve) (fe : FlatPairs PyData.str kve (kdpD c2)) (n3 : (ds, os) ∈ news) (n4 : (de, oe) ∈ news) (i1 : (x3, instObj 423 d3) ∈ news) (i2 : (d3, dictOf [⟨PySem.PyData.keyHash w.params (Str.ofString "namespace"), .str (Str.ofString "namespace") t5, .str (Str.ofString "LIMITER") t8⟩, ⟨PySem.PyData.keyHash w.params (Str.ofString "amount"), .str (Str.ofString "amount") t6, .int most tm⟩, ⟨PySem.PyData.keyHash w.params (Str.ofString "multiples"), .str (Str.ofString "multiples") t7, .int len tl⟩] 3) ∈ news) (m1 : (x2, instObj 218 d2) ∈ news) (m2 : (d2, dictOf [⟨PySem.PyData.keyHash w.params (Str.ofString "storage"), .str (Str.ofString "storage") u1, .ref x1⟩] 1) ∈ news) (i3 : (nm, tupK [.str (Str.ofString "ann") tA].toArray n) ∈ news)
    (tab : Tab len most (keyOf most len) log c1 c2) (lok : LogOk end0 log) (hz : cnt len log (now / len) ≠ 0 → now % len ≠ 0) (hW : Wt len log now ≤ most)
    (h0 : 1000000 ≤ now) (h9 : now ≤ 2000000000) (m0 : 1 ≤ most) (m9 : most ≤ 9) (l0 : 2 ≤ len) (l9 : len ≤ 8) (eP : cnt len log (now / len - 1) = P) (eC : cnt len log (now / len) = C)
    (ret : ∀ left mom parts tl tm tp x dx t h' tk', TurnOk len most now log P C left mom parts → Fr h₀ L h' m → News h₀ L h' ((x, statsObj dx (.ref t) (.int left tl)) :: (dx, dictOf [] 0) :: (t, tupObj [.int mom tm, .int parts tp]) :: news) → Q (.ref x) { s with heap := h', toks := tk' }) :
    wpAny (model PG w) (ktrTop dp un gd cn cs L a ccd cl outer) (call (.ref 206)  [.ref x2, .ref x3, .ref nm]) Q E s := by
  have a := tab.asks (t := now) lok l0 m9
  refine stats_spec B F X N T hk hd hu hC n1 n2 n5 n6 n7 n8 ls le hs fs he fe n3 n4 i1 i2 m1 m2 i3 a.ok1 a.ok2 h0 h9 m0 m9 l0 l9 a.p0 a.p9 a.q0 a.q9 ?_
  intro P' C' cu pt left mom parts tl tm tp x dx t h' tk' eP' eC' eU eQ eL eT F' N'
  have k := turn_ok tab lok l0 l9 m9 h0 hz hW eP' eC' eU eQ eL eT
  have q1 : P' = P := k.eP.trans eP
  have q2 : C' = C := k.eC.trans eC
  subst q1 q2
  exact ret left mom parts tl tm tp x dx t h' tk' k F' N'
theorem test_law {w : World} {p : Program} {loose : List Str} {mean : ExcName → Option Value} {mg mb : Str → Option Value} {dp un : Nat} {gd : Option (List Code)} {cn : Str} {cs : Scope} {a : Addr} {ccd : Value} {cl : List (Str × Addr)} {outer : List Env} {A₀ : Around} {base h₀ : Heap} {L : Addr} {m : Str → Option Value} {s : Shared} {Q E : Value → Shared → Prop} {news : List (Addr × Obj)} {x1 d1 ds de dv f cell nl cq : Addr} {fo co oq os oe : Obj} {t1 t2 t3 t4 tn : Tok} {now : Int} {kvs kve : List (Str × Value)} {c1 c2 : List (Str × Int)} {x3 d3 : Addr} {t5 t6 t7 t8 tm tl : Tok} {most len : Int} {x2 d2 : Addr} {u1 : Tok} {nm : Addr} {tA ta : Tok} {n : Nat} {cost : Int} {log : List (Int × Int)} {end0 : Int}
    (B : Below A₀ base outer h₀) (F : Fr h₀ L s.heap m) (X : (Mine.hd.heap_39 w.params).In h₀) (N : News h₀ L s.heap news) (T : Top p loose mean mg mb h₀) (hk : cs.kind = .function) (hd : dp + 40 < recursionLimit) (hu : un + 500 < cLine) (hC : ClockSpec w p loose mean mg mb f cell nl cq fo co oq) (n1 : (x1, instObj 568 d1) ∈ news) (n2 : (d1, dictOf [⟨PySem.PyData.keyHash w.params (Str.ofString "clock"), .str (Str.ofString "clock") t1, .ref f⟩, ⟨PySem.PyData.keyHash w.params (Str.ofString "storage"), .str (Str.ofString "storage") t2, .ref ds⟩, ⟨PySem.PyData.keyHash w.params (Str.ofString "expirations"), .str (Str.ofString "expirations") t3, .ref de⟩, ⟨PySem.PyData.keyHash w.params (Str.ofString "events"), .str (Str.ofString "events") t4, .ref dv⟩] 4) ∈ news) (n5 : (f, fo) ∈ news) (n6 : (cell, co) ∈ news) (n7 : (nl, listOf #[.int now tn] 0) ∈ news) (n8 : (cq, oq) ∈ news) (ls : (ds == sysModules) = false) (le : (de == sysModules) = false) (hs : os.IsDictOf (strKind PG w) kvs) (fs : FlatPairs PyData.str kvs (kdpD c1)) (he : oe.IsDictOf (strKind PG w) kve) (fe : FlatPairs PyData.str kve (kdpD c2)) (n3 : (ds, os) ∈ news) (n4 : (de, oe) ∈ news) (i1 : (x3, instObj 423 d3) ∈ news) (i2 : (d3, dictOf [⟨PySem.PyData.keyHash w.params (Str.ofString "namespace"), .str (Str.ofString "namespace") t5, .str (Str.ofString "LIMITER") t8⟩, ⟨PySem.PyData.keyHash w.params (Str.ofString "amount"), .str (Str.ofString "amount") t6, .int most tm⟩, ⟨PySem.PyData.keyHash w.params (Str.ofString "multiples"), .str (Str.ofString "multiples") t7, .int len tl⟩] 3) ∈ news) (m1 : (x2, instObj 218 d2) ∈ news) (m2 : (d2, dictOf [⟨PySem.PyData.keyHash w.params (Str.ofString "storage"), .str (Str.ofString "storage") u1, .ref x1⟩] 1) ∈ news) (i3 : (nm, tupK [.str (Str.ofString "ann") tA].toArray n) ∈ news)
    (tab : Tab len most (keyOf most len) log c1 c2) (lok : LogOk end0 log)
    (h0 : 1000000 ≤ now) (h9 : now ≤ 2000000000) (m0 : 1 ≤ most) (m9 : most ≤ 9) (l0 : 2 ≤ len) (l9 : len ≤ 8) (g0 : -100 ≤ cost) (g9 : cost ≤ 100)
    (ret : ∀ h' tk', Fr h₀ L h' m → News h₀ L h' news → Q (.bool (decide (Wt len log now < most - cost + 1))) { s with heap := h', toks := tk' }) :
    wpAny (model PG w) (ktrTop dp un gd cn cs L a ccd cl outer) (call (.ref 197)  [.ref x2, .ref x3, .ref nm, .int cost ta]) Q E s := by
  have a := tab.asks (t := now) lok l0 m9
  refine test_spec B F X N T hk hd hu hC n1 n2 n5 n6 n7 n8 ls le hs fs he fe n3 n4 i1 i2 m1 m2 i3 a.ok1 a.ok2 h0 h9 m0 m9 l0 l9 a.p0 a.p9 a.q0 a.q9 g0 g9 ?_
  intro h' tk' F' N'
  rw [tab.weighed l0]
  exact ret h' tk' F' N'
/-- a row that the second loop makes -/
def rowAt (L M : Int) (log : List (Int × Int)) (now1 : Int) (i : Nat) : Int × Int × Int := (now1 + i, M - Wt L log (now1 + i), tel L log (now1 + i))
def rowDat (rows : List (Int × Int × Int)) : List Dat := rows.map fun r => .tuple [.int r.1, .int r.2.1, .int r.2.2]
structure L2S where
  now : Int
  tn : Tok
  rvs : List Value
  rn : Nat
  rows : List (Int × Int × Int)
abbrev Led2 (nl rl : Addr) (c : L2S) : List (Addr × Obj) := [(nl, listOf #[.int c.now c.tn] 0), (rl, listOf c.rvs.toArray c.rn)]
def Facts2 (nx : List (Addr × Obj)) (c : L2S) : Prop := DatAll nx c.rvs (rowDat c.rows)
def Inv2 (L M : Int) (log : List (Int × Int)) (now1 : Int) (pre : List Int) (c : L2S) : Prop := c.now = now1 + pre.length ∧ c.rows = (List.range pre.length).map (rowAt L M log now1)
section
variable {w : World} {A : Around} {E : Value → Shared → Prop} {s : Shared} {env : Env} {h₀ : Heap} {x : Str} {body : List Stmt} {Q : Flow → Shared → Prop}
theorem loop2 {r nl rl : Addr} {b₀ : Int} {t₀ u₀ v₀ : Tok} {m₀ : Str → Option Value} {news : List (Addr × Obj)} (cst : List (Addr × Obj)) (stored : List Str) (Inv : List Int → L2S → Prop) (c₀ : L2S)
    (hh : A.handled = none) (hr : IsRange s.heap r 0 b₀ 1 t₀ u₀ v₀) (hb : 0 ≤ b₀) (hb9 : b₀ ≤ 100) (F : Fr h₀ env.locals s.heap m₀) (N : News h₀ env.locals s.heap news) (hn : ∀ p ∈ Led2 nl rl c₀ ++ (cst ++ []), p ∈ news) (hf : Facts2 (cst ++ []) c₀) (hp : Inv [] c₀)
    (turn : ∀ (c : L2S) tl (pre : List Int) (k : Int) t (u : Str → Option Value) h tk own, k = 0 + (pre.length : Int) → pre.length < b₀.toNat → KdSep own tl (nl :: rl :: cst.map (·.1)) → OwnOff (tl ++ own) (nl :: rl :: cst.map (·.1)) → Facts2 (cst ++ tl) c → Inv pre c →
      Fr h₀ env.locals h (fun y => if y = x then some (.int k t) else if stored.contains y then u y else m₀ y) → News h₀ env.locals h (Led2 nl rl c ++ (cst ++ (tl ++ own))) →
      wpAny (model PG w) A (execs body env) (InvPostG h₀ env.locals (KdS (Led2 nl rl) cst (fun _ => []) Facts2 x stored m₀ Inv (nl :: rl :: cst.map (·.1)) (pre ++ [k])) own { s with heap := h, toks := tk } Q) E { s with heap := h, toks := tk })
    (done : ∀ (c : L2S) tl (u : Str → Option Value) h tk, OwnOff tl (nl :: rl :: cst.map (·.1)) → Facts2 (cst ++ tl) c → Inv (rangeKs 0 b₀.toNat) c → Fr h₀ env.locals h (fun y => if y = x then u y else if stored.contains y then u y else m₀ y) → News h₀ env.locals h (Led2 nl rl c ++ (cst ++ tl)) → Q .next { s with heap := h, toks := tk }) :
    wpAny (model PG w) A (pyIter (.ref r)) (fun it s₂ => LoopAtV PG w A h₀ env x body Q E it s₂) E s :=
  kd_range (n := b₀.toNat) (Led2 nl rl) cst (fun _ => []) Facts2 stored Inv (nl :: rl :: cst.map (·.1)) c₀ hh hr (small_one (by decide) (by decide) (by omega) (by omega)) (by unfold Builtin.Range.rangeSize; rw [if_pos (by decide)]; split <;> omega) F N hn (fun _ => rfl) hf (fun _ h => nomatch h) hp
    turn done
end

def cntB (st L : Int) (lp : List (Int × Int)) : Int := (lp.map fun p => if st ≤ p.1 then 0 else if st - L ≤ p.1 then p.2 else 0).sum
def cntT (st : Int) (lp : List (Int × Int)) : Int := (lp.map fun p => if st ≤ p.1 then p.2 else 0).sum
theorem cntB_snoc (st L : Int) (lp : List (Int × Int)) (p : Int × Int) : cntB st L (lp ++ [p]) = cntB st L lp + (if st ≤ p.1 then 0 else if st - L ≤ p.1 then p.2 else 0) := by simp [cntB, List.sum_append]
theorem cntT_snoc (st : Int) (lp : List (Int × Int)) (p : Int × Int) : cntT st (lp ++ [p]) = cntT st lp + (if st ≤ p.1 then p.2 else 0) := by simp [cntT, List.sum_append]
theorem win_eq {L t x : Int} (hL : 2 ≤ L) (hx : x ≤ t) : (t - t % L ≤ x ↔ x / L = t / L) ∧ ((x < t - t % L ∧ t - t % L - L ≤ x) ↔ x / L = t / L - 1) := by
  have e := Int.emod_add_mul_ediv t L
  have h0 := Int.emod_nonneg t (show L ≠ 0 by omega)
  have h1 := Int.emod_lt_of_pos t (show 0 < L by omega)
  have f := Int.emod_add_mul_ediv x L
  have g0 := Int.emod_nonneg x (show L ≠ 0 by omega)
  have g1 := Int.emod_lt_of_pos x (show 0 < L by omega)
  have up : ∀ k : Int, L * k ≤ x → k ≤ x / L := fun k hk => by
    rcases Int.lt_or_le (x / L) k with h | h
    · have : L * (x / L + 1) ≤ L * k := Int.mul_le_mul_of_nonneg_left (by omega) (by omega)
      rw [Int.mul_add] at this
      omega
    · exact h
  have down : ∀ k : Int, k ≤ x / L → L * k ≤ x := fun k hk => by
    have : L * k ≤ L * (x / L) := Int.mul_le_mul_of_nonneg_left hk (by omega)
    omega
  have hle : x / L ≤ t / L := Int.ediv_le_ediv (by omega) hx
  have c1 : L * (t / L - 1) = L * (t / L) - L := by rw [Int.mul_sub]; omega
  have u1 := up (t / L)
  have u2 := up (t / L - 1)
  have d1 := down (t / L)
  have d2 := down (t / L - 1)
  refine ⟨⟨fun h => ?_, fun h => ?_⟩, ⟨fun h => ?_, fun h => ?_⟩⟩
  · have := u1 (by omega); omega
  · have := d1 (by omega); omega
  · have := u2 (by omega)
    rcases Int.lt_or_le (x / L) (t / L) with h9 | h9
    · omega
    · have := d1 (by omega); omega
  · have := d2 (by omega)
    refine ⟨?_, by omega⟩
    rcases Int.lt_or_le x (t - t % L) with h9 | h9
    · exact h9
    · have := u1 (by omega); omega
theorem cntT_eq {L t now : Int} {log : List (Int × Int)} (hL : 2 ≤ L) (lok : LogOk now log) (ht : now ≤ t) : cntT (t - Int.fmod t L) log = cnt L log (t / L) := by
  rw [Int.fmod_eq_emod_of_nonneg _ (by omega)]
  induction log with
  | nil => rfl
  | cons p r ih =>
    have h := lok p List.mem_cons_self
    have i := ih fun q hq => lok q (List.mem_cons_of_mem _ hq)
    have k := (win_eq (L := L) (t := t) (x := p.1) hL (by omega)).1
    have e1 : cntT (t - t % L) (p :: r) = (if t - t % L ≤ p.1 then p.2 else 0) + cntT (t - t % L) r := by simp [cntT]
    have e2 : cnt L (p :: r) (t / L) = (if p.1 / L = t / L then p.2 else 0) + cnt L r (t / L) := by simp [cnt]
    rw [e1, e2, i]
    by_cases h9 : t - t % L ≤ p.1
    · rw [if_pos h9, if_pos (k.mp h9)]
    · rw [if_neg h9, if_neg (fun q => h9 (k.mpr q))]
theorem cntB_eq {L t now : Int} {log : List (Int × Int)} (hL : 2 ≤ L) (lok : LogOk now log) (ht : now ≤ t) : cntB (t - Int.fmod t L) L log = cnt L log (t / L - 1) := by
  rw [Int.fmod_eq_emod_of_nonneg _ (by omega)]
  induction log with
  | nil => rfl
  | cons p r ih =>
    have h := lok p List.mem_cons_self
    have i := ih fun q hq => lok q (List.mem_cons_of_mem _ hq)
    have k := (win_eq (L := L) (t := t) (x := p.1) hL (by omega)).2
    have e1 : cntB (t - t % L) L (p :: r) = (if t - t % L ≤ p.1 then 0 else if t - t % L - L ≤ p.1 then p.2 else 0) + cntB (t - t % L) L r := by simp [cntB]
    have e2 : cnt L (p :: r) (t / L - 1) = (if p.1 / L = t / L - 1 then p.2 else 0) + cnt L r (t / L - 1) := by simp [cnt]
    rw [e1, e2, i]
    by_cases h9 : t - t % L ≤ p.1
    · rw [if_pos h9, if_neg (fun q => by have := k.mpr q; omega)]
    · rw [if_neg h9]
      by_cases h8 : t - t % L - L ≤ p.1
      · rw [if_pos h8, if_pos (k.mp ⟨by omega, h8⟩)]
      · rw [if_neg h8, if_neg (fun q => h8 (k.mpr q).2)]
structure IB where
  b : Int
  t : Int
  tb : Tok
  tt : Tok
def InvI (st L : Int) (log : List (Int × Int)) (pre : List Dat) (c : IB) : Prop := ∃ lp ls, log = lp ++ ls ∧ pre = logDat lp ∧ c.b = cntB st L lp ∧ c.t = cntT st lp
abbrev psI (c : IB) : List (Str × Value) := [(Str.ofString "before", .int c.b c.tb), (Str.ofString "this", .int c.t c.tt)]
theorem logDat_split {log lp ls : List (Int × Int)} {d : Dat} {post : List Dat} (h1 : log = lp ++ ls) (h2 : logDat log = logDat lp ++ d :: post) : ∃ p ls', ls = p :: ls' ∧ d = .tuple [.int p.1, .int p.2] := by
  subst h1
  rw [logDat, List.map_append] at h2
  have h3 := List.append_cancel_left h2
  cases ls with
  | nil => cases h3
  | cons p ls' => exact ⟨p, ls', rfl, (List.cons.inj h3).1.symm⟩
theorem logDat_all {log lp ls : List (Int × Int)} (h1 : log = lp ++ ls) (h2 : logDat log = logDat lp) : lp = log := by
  have h3 := congrArg List.length h2
  subst h1
  rw [logDat, logDat, List.length_map, List.length_map, List.length_append] at h3
  have : ls = [] := List.length_eq_zero_iff.mp (by omega)
  rw [this, List.append_nil]
theorem pair_in {nx : List (Addr × Obj)} {v : Value} {x y : Int} (h : DatIn nx v (.tuple [.int x, .int y])) : ∃ a n q1 q2, v = .ref a ∧ (a, tupK [.int x q1, .int y q2].toArray n) ∈ nx := by
  cases h with
  | tuple hm hr =>
    cases hr with
    | cons h1 hr =>
      cases h1
      cases hr with
      | cons h2 hr =>
        cases h2
        cases hr
        exact ⟨_, _, _, _, rfl, hm⟩
theorem trio_in {nx : List (Addr × Obj)} {v : Value} {x y z : Int} (h : DatIn nx v (.tuple [.int x, .int y, .int z])) : ∃ a n q1 q2 q3, v = .ref a ∧ (a, tupK [.int x q1, .int y q2, .int z q3].toArray n) ∈ nx := by
  cases h with
  | tuple hm hr =>
    cases hr with
    | cons h1 hr =>
      cases h1
      cases hr with
      | cons h2 hr =>
        cases h2
        cases hr with
        | cons h3 hr =>
          cases h3
          cases hr
          exact ⟨_, _, _, _, _, rfl, hm⟩
section
variable {w : World} {A : Around} {E : Value → Shared → Prop} {s : Shared} {env : Env} {h₀ : Heap} {target : PySem.Expr} {body : List Stmt} {Q : Flow → Shared → Prop}
/-- the sum over the log -/
theorem loopI {l : Addr} {vs : List Value} {nn : Nat} {m₀ : Str → Option Value} {news : List (Addr × Obj)} {log : List (Int × Int)} {tb tt : Tok} (st L : Int)
    (hh : A.handled = none) (hl : (l, listOf vs.toArray nn) ∈ news) (hd : DatAll news vs (logDat log)) (F : Fr h₀ env.locals s.heap m₀) (N : News h₀ env.locals s.heap news) (h1 : m₀ (Str.ofString "before") = some (.int 0 tb)) (h2 : m₀ (Str.ofString "this") = some (.int 0 tt))
    (turn : ∀ (c : IB) tl lp p ls a n q1 q2 (u : Str → Option Value) h tk own, log = lp ++ p :: ls → c.b = cntB st L lp → c.t = cntT st lp → (a, tupK [.int p.1 q1, .int p.2 q2].toArray n) ∈ news ++ tl → KdSep own tl (news.map (·.1)) → OwnOff (tl ++ own) (news.map (·.1)) →
      Fr h₀ env.locals h (fun y => if y = Str.ofString "second" then u y else kstB (fun z => if [Str.ofString "cost"].contains z then u z else m₀ z) (psI c) y) → News h₀ env.locals h (news ++ (tl ++ own)) →
      wpAny (model PG w) A (assign target env (.ref a)) (fun _ s₃ => wpAny (model PG w) A (execs body env) (InvPostG h₀ env.locals (KdS (fun _ : IB => []) news psI (fun _ _ => True) (Str.ofString "second") [Str.ofString "cost"] m₀ (InvI st L log) (news.map (·.1)) (logDat lp ++ [.tuple [.int p.1, .int p.2]])) own { s with heap := h, toks := tk } Q) E s₃) E { s with heap := h, toks := tk })
    (done : ∀ (c : IB) tl (u : Str → Option Value) h tk, c.b = cntB st L log → c.t = cntT st log → OwnOff tl (news.map (·.1)) → Fr h₀ env.locals h (fun y => if y = Str.ofString "second" then u y else kstB (fun z => if [Str.ofString "cost"].contains z then u z else m₀ z) (psI c) y) → News h₀ env.locals h (news ++ tl) → Q .next { s with heap := h, toks := tk }) :
    wpAny (model PG w) A (pyIter (.ref l)) (fun it s₂ => TurnsAt PG w A h₀ env target body Q E it s₂) E s := by
  refine turns_list (x := Str.ofString "second") (ds := logDat log) (fun _ : IB => []) news psI (fun _ _ => True) [Str.ofString "cost"] (InvI st L log) (news.map (·.1)) ⟨0, 0, tb, tt⟩ hh hl (by rw [List.append_nil]; exact hd) F N (fun p hp => by simpa using hp) (fun _ => rfl) trivial ?_ ⟨[], log, rfl, rfl, rfl, rfl⟩ ?_ ?_
  · intro p hp
    rcases List.mem_cons.mp hp with e | hp
    · subst e; exact h1
    · rcases List.mem_cons.mp hp with e | hp
      · subst e; exact h2
      · cases hp
  · rintro c tl pre d post v u h tk own e hm hD hs ho _ ⟨lp, ls, q1, q2, q3, q4⟩ F' N'
    subst q2
    obtain ⟨p, ls', rfl, rfl⟩ := logDat_split q1 e
    obtain ⟨a, n, r1, r2, rfl, hm'⟩ := pair_in hD
    exact turn c tl lp p ls' a n r1 r2 u h tk own q1 q3 q4 hm' hs ho F' N'
  · rintro c tl u h tk ho _ ⟨lp, ls, q1, q2, q3, q4⟩ F' N'
    have := logDat_all q1 q2
    subst this
    exact done c tl u h tk q3 q4 ho F' N'
end
theorem hz_of {L now t : Int} {log : List (Int × Int)} (lok : LogOk now log) (hL : 2 ≤ L) (ht : now ≤ t) (md : now % L ≠ 0) (h : cnt L log (t / L) ≠ 0) : t % L ≠ 0 := by
  have h1 : now / L ≤ t / L := Int.ediv_le_ediv (by omega) ht
  have h2 : ¬ now / L < t / L := fun q => h (cnt_later lok (by omega) q)
  have e1 := Int.emod_add_mul_ediv now L
  have e2 := Int.emod_add_mul_ediv t L
  have h3 : t / L = now / L := by omega
  have m0 := Int.emod_nonneg now (show L ≠ 0 by omega)
  rw [h3] at e2
  omega
theorem TurnOk.d1 {L M t P C left mom parts : Int} {log : List (Int × Int)} (h : TurnOk L M t log P C left mom parts) : P ≤ 0 ∨ P * ((t - Int.fmod t L + L) * parts - mom) = (M - left - C) * L * parts := by
  rcases Int.lt_or_le 0 P with h9 | h9
  · exact .inr (h.b1 h9)
  · exact .inl h9
theorem TurnOk.d2 {L M t P C left mom parts : Int} {log : List (Int × Int)} (h : TurnOk L M t log P C left mom parts) : P ≠ 0 ∨ C ≤ 0 ∨ mom = (t - Int.fmod t L + L) * parts := by
  by_cases h9 : P = 0
  · rcases Int.lt_or_le 0 C with h8 | h8
    · exact .inr (.inr (h.b2 h9 h8))
    · exact .inr (.inl h8)
  · exact .inl h9
theorem TurnOk.d3 {L M t P C left mom parts : Int} {log : List (Int × Int)} (h : TurnOk L M t log P C left mom parts) : P ≠ 0 ∨ C ≠ 0 ∨ (mom = t * parts ∧ left = M) := by
  by_cases h9 : P = 0
  · by_cases h8 : C = 0
    · exact .inr (.inr (h.b3 h9 h8))
    · exact .inr (.inl h8)
  · exact .inl h9
theorem drop3 {h₀ : Heap} {L : Addr} {h : Heap} {q a b c : Addr × Obj} {l : List (Addr × Obj)} (N : News h₀ L h (q :: a :: b :: c :: l)) : News h₀ L h (q :: l) := by
  refine cb_drop N fun p hp => ?_
  simp only [List.mem_cons] at hp ⊢
  rcases hp with h | h <;> simp [h]
theorem in_all2 {q : Addr × Obj} {a b t1 t2 r : List (Addr × Obj)} : ∀ p ∈ a ++ ((b ++ t1) ++ ([q] ++ t2)), p ∈ q :: (a ++ (b ++ (t1 ++ (t2 ++ r)))) := fun p hp => by
  simp only [List.mem_append, List.mem_cons, List.not_mem_nil, or_false] at hp ⊢
  rcases hp with h | (h | h) | h | h <;> simp [h]
theorem off_two {tl1 tl2 own itl : List (Addr × Obj)} {nl rl : Addr} {a1 a2 a3 : List Addr} (h1 : OwnOff tl1 a1) (m1 : nl ∈ a1) (h2 : ∀ p ∈ tl1, p.1 ≠ rl) (h3 : OwnOff (tl2 ++ own) a2) (m2 : nl ∈ a2) (m3 : rl ∈ a2) (h4 : OwnOff itl a3) (m4 : nl ∈ a3) (m5 : rl ∈ a3) : OwnOff (tl1 ++ (tl2 ++ (own ++ itl))) [nl, rl] := by
  intro p hp b hb
  simp only [List.mem_append] at hp
  simp only [List.mem_cons, List.not_mem_nil, or_false] at hb
  rcases hp with h | h | h | h <;> rcases hb with e | e <;> subst e
  · exact h1 p h _ m1
  · exact h2 p h
  · exact h3 p (List.mem_append_left _ h) _ m2
  · exact h3 p (List.mem_append_left _ h) _ m3
  · exact h3 p (List.mem_append_right _ h) _ m2
  · exact h3 p (List.mem_append_right _ h) _ m3
  · exact h4 p h _ m4
  · exact h4 p h _ m5
theorem inv2_next {L M now1 nw left told k : Int} {log : List (Int × Int)} {pre : List Int} {rows : List (Int × Int × Int)} {tn' : Tok} {rvs' : List Value} {rn' : Nat} (i1 : nw = now1 + pre.length) (i2 : rows = (List.range pre.length).map (rowAt L M log now1)) (e1 : left = M - Wt L log nw) (e2 : told = tel L log nw) :
    Inv2 L M log now1 (pre ++ [k]) ⟨nw + 1, tn', rvs', rn', rows ++ [(nw, left, told)]⟩ := by
  refine ⟨?_, ?_⟩
  · dsimp only
    rw [List.length_append, List.length_singleton]; omega
  · dsimp only
    rw [List.length_append, List.length_singleton, List.range_succ, List.map_append, ← i2, e1, e2]
    simp only [List.map_cons, List.map_nil, rowAt, ← i1]
theorem row_snoc {nx : List (Addr × Obj)} {rvs : List Value} {rows : List (Int × Int × Int)} {a : Addr} {x y z : Int} {t u v : Tok} {k : Nat} (h : DatAll nx rvs (rowDat rows)) (hm : (a, tupK [.int x t, .int y u, .int z v].toArray k) ∈ nx) : DatAll nx (rvs ++ [.ref a]) (rowDat (rows ++ [(x, y, z)])) := by
  rw [rowDat, List.map_append]
  exact h.append (DatAll.one (.tuple hm (.cons (.int _ _) (.cons (.int _ _) (.cons (.int _ _) .nil)))))
/-- the law's state behind its second loop -/
structure After2 (w : World) (s₀ s₁ : Shared) (h : Heap) (p : Program) (loose : List Str) (mean : ExcName → Option Value) (mg mb : Str → Option Value) (base : Str → Option Value) (most len : Int) (rl : Addr) (qm : Tok) (ps : Array Value) (rvs : List Value) (rn : Nat) (log : List (Int × Int)) (now1 : Int) (ent : List (Addr × Obj)) : Prop where
  F : Fr (ghostOf s₁.heap [(576, 572)]) s₁.heap.objs.size h (fun y => if y = Str.ofString "rows" then some (.ref rl) else if y = Str.ofString "most" then some (.int most qm) else base y)
  N : News (ghostOf s₁.heap [(576, 572)]) s₁.heap.objs.size h ((rl, listOf rvs.toArray rn) :: ent)
  hm : (572, tabObj ps) ∈ ent
  dat : DatAll ent rvs (rowDat ((List.range (2 * len + 1).toNat).map (rowAt len most log now1)))
  B : Below callerA (ghostOf s₁.heap [(576, 572)]) [] (ghostOf s₁.heap [(576, 572)])
  X : (Mine.hd.heap_39 w.params).In (ghostOf s₁.heap [(576, 572)])
  T : Top p loose mean mg mb (ghostOf s₁.heap [(576, 572)])
  hg : s₁.gens = #[]
  m0 : 1 ≤ most
  m9 : most ≤ 9
  l0 : 2 ≤ len
  l9 : len ≤ 8
  lok : LogOk now1 log
  wt : Wt len log now1 ≤ most
  n0 : 1000000 ≤ now1
  n9 : now1 ≤ 1002000001
  md : now1 % len ≠ 0
theorem fr_two {h₀ h : Heap} {L : Addr} {f : Str → Option Value} {v w : Value} (F : Fr h₀ L h f) (h1 : f (Str.ofString "rows") = some v) (h2 : f (Str.ofString "most") = some w) :
    Fr h₀ L h (fun y => if y = Str.ofString "rows" then some v else if y = Str.ofString "most" then some w else f y) := by
  have e : f = (fun y => if y = Str.ofString "rows" then some v else if y = Str.ofString "most" then some w else f y) := by
    funext y
    by_cases e1 : y = Str.ofString "rows"
    · rw [if_pos e1, e1, h1]
    · by_cases e2 : y = Str.ofString "most"
      · rw [if_neg e1, if_pos e2, e2, h2]
      · rw [if_neg e1, if_neg e2]
  exact e ▸ F
theorem drop_one {h₀ : Heap} {L : Addr} {h : Heap} {a : Addr × Obj} {l : List (Addr × Obj)} (N : News h₀ L h (a :: l)) : News h₀ L h l := cb_drop N fun p hp => List.mem_cons_of_mem _ hp

section
local macro_rules | `(tactic| walk_at "use common") => `(tactic| (walk_at "use commonZ"; (case N => first | k_asm | ktn_no "use: N")))
local macro_rules | `(tactic| walk_at "use commonZ") => `(tactic| (
  (case B => first | k_asm | ktn_no "use: B")
  (case F => first | k_asm | ktn_no "use: F")
  (case X => first | k_asm | ktn_no "use: X")
  (case T => first | k_asm | ktn_no "use: T")
  (case hk => first | exact rfl | assumption | ktn_no "use: hk")
  (case hd => first | ktr_room | ktn_no "use: hd")
  (case hu => first | ktr_units | ktn_no "use: hu")))
local macro_rules | `(tactic| walk_at "exec For") => `(tactic| (k_here; (with_reducible show wpAny _ _ (exec (Stmt.For (Expr.Name _ _) (Expr.Subscript _ _ _) _ [] _) _) _ _ _); (rename Fr _ _ _ _ => F9); (with_unfolding_all refine For_invVF F9 (by rfl) (by rfl) ?_)))
local macro_rules | `(tactic| walk_at "call ref") => `(tactic| (k_here; (with_reducible show wpAny _ _ (call (Value.ref 188) _ _) _ _ _); k_dflt ((show wpAny _ _ (call (Value.ref 188) [Value.ref _, Value.ref _, Value.ref _, Value.int _ _]) _ _ _); refine' hit_spec rfl ?r1 ?r2 ?r3 ?B ?F ?X ?N ?T ?hk ?hd ?hu ?hC ?n1 ?n2 ?n5 ?n6 ?n7 ?n8 ?ls ?le ?hs ?fs ?he ?fe ?i1 ?i2 ?m1 ?m2 ?i3 ?ok1 ?ok2 ?z1 ?z2 ?h0 ?h9 ?m0 ?m9 ?l0 ?l9 ?p0 ?p9 ?q0 ?q9 ?_ ?_; (case hC => assumption); walk_at "use commonZ"; (case N => first | k_asm | ktn_no "hit: N"); (case n1 => first | k_mem | ktn_no "hit: n1"); (case n2 => first | k_mem | ktn_no "hit: n2"); (case n5 => first | k_mem | ktn_no "hit: n5"); (case n6 => first | k_mem | ktn_no "hit: n6"); (case n7 => first | k_mem | ktn_no "hit: n7"); (case n8 => first | k_mem | ktn_no "hit: n8"); (case i1 => first | k_mem | ktn_no "hit: i1"); (case i2 => first | k_mem | ktn_no "hit: i2"); (case m1 => first | k_mem | ktn_no "hit: m1"); (case m2 => first | k_mem | ktn_no "hit: m2"); (case i3 => first | k_mem | ktn_no "hit: i3"); (case ls => first | assumption | ktn_no "hit: ls"); (case le => first | assumption | ktn_no "hit: le"); (case hs => first | assumption | ktn_no "hit: hs"); (case fs => first | assumption | ktn_no "hit: fs"); (case he => first | assumption | ktn_no "hit: he"); (case fe => first | assumption | ktn_no "hit: fe"); (case ok1 => first | assumption | ktn_no "hit: ok1"); (case ok2 => first | assumption | ktn_no "hit: ok2"); (case z1 => first | assumption | ktn_no "hit: z1"); (case z2 => first | assumption | ktn_no "hit: z2"); (case h0 => first | assumption | ktn_no "hit: h0"); (case h9 => first | assumption | ktn_no "hit: h9"); (case m0 => first | assumption | ktn_no "hit: m0"); (case m9 => first | assumption | ktn_no "hit: m9"); (case l0 => first | assumption | ktn_no "hit: l0"); (case l9 => first | assumption | ktn_no "hit: l9"); (case p0 => first | assumption | ktn_no "hit: p0"); (case p9 => first | assumption | ktn_no "hit: p9"); (case q0 => first | assumption | ktn_no "hit: q0"); (case q9 => first | assumption | ktn_no "hit: q9"); (case r3 => first | assumption | omega | ktn_no "hit: r3"); (case r1 => first | (repeat' (first | assumption | (refine ane_cons (by (dsimp only; omega)) ?_))) | ktn_no "hit: r1"); (case r2 => first | (repeat' (first | assumption | (refine ane_cons (by (dsimp only; omega)) ?_))) | ktn_no "hit: r2")); (all_goals (first | (intro ha9 hw9 os9 oe9 kvs9 kve9 c9 h9 tk9 hd9 hf9 hd8 hf8 hc9 F' N'; (try dsimp only)) | (intro hw9 h9 tk9 F' N'; (try dsimp only))))))
local macro_rules | `(tactic| walk_at "call builtin:list.append") => `(tactic| (k_here; (show wpAny _ _ (call (Value.builtin "list.append") [Value.ref _, _]) _ _ _); k_dflt (refine' append_K ?k1 ?k2 ?k3 ?_ ?z; (case k1 => k_asm); (case k2 => k_asm); (case k3 => k_upd); (case z => assumption); k_whole); intro h' F' N'))
local macro_rules | `(tactic| walk_at "call ref") => `(tactic| (k_here; (with_reducible show wpAny _ _ (call (Value.ref 206) _ _) _ _ _); k_dflt ((show wpAny _ _ (call (Value.ref 206) [Value.ref _, Value.ref _, Value.ref _]) _ _ _); refine' stats_law ?B ?F ?X ?N ?T ?hk ?hd ?hu ?hC ?n1 ?n2 ?n5 ?n6 ?n7 ?n8 ?ls ?le ?hs ?fs ?he ?fe ?n3 ?n4 ?i1 ?i2 ?m1 ?m2 ?i3 ?tab ?lok ?hz ?hW ?h0 ?h9 ?m0 ?m9 ?l0 ?l9 ?eP ?eC ?_; (case hC => assumption); walk_at "use common"; (case n1 => first | k_mem | ktn_no "stats: n1"); (case n2 => first | k_mem | ktn_no "stats: n2"); (case n5 => first | k_mem | ktn_no "stats: n5"); (case n6 => first | k_mem | ktn_no "stats: n6"); (case n7 => first | k_mem | ktn_no "stats: n7"); (case n8 => first | k_mem | ktn_no "stats: n8"); (case n3 => first | k_mem | ktn_no "stats: n3"); (case n4 => first | k_mem | ktn_no "stats: n4"); (case i1 => first | k_mem | ktn_no "stats: i1"); (case i2 => first | k_mem | ktn_no "stats: i2"); (case m1 => first | k_mem | ktn_no "stats: m1"); (case m2 => first | k_mem | ktn_no "stats: m2"); (case i3 => first | k_mem | ktn_no "stats: i3"); (case ls => first | assumption | ktn_no "stats: ls"); (case le => first | assumption | ktn_no "stats: le"); (case hs => first | assumption | ktn_no "stats: hs"); (case fs => first | assumption | ktn_no "stats: fs"); (case he => first | assumption | ktn_no "stats: he"); (case fe => first | assumption | ktn_no "stats: fe"); (case tab => first | assumption | ktn_no "stats: tab"); (case lok => first | assumption | ktn_no "stats: lok"); (case hz => first | assumption | ktn_no "stats: hz"); (case hW => first | assumption | ktn_no "stats: hW"); (case h0 => first | assumption | ktn_no "stats: h0"); (case h9 => first | assumption | ktn_no "stats: h9"); (case m0 => first | assumption | ktn_no "stats: m0"); (case m9 => first | assumption | ktn_no "stats: m9"); (case l0 => first | assumption | ktn_no "stats: l0"); (case l9 => first | assumption | ktn_no "stats: l9"); (case eP => first | assumption | ktn_no "stats: eP"); (case eC => first | assumption | ktn_no "stats: eC")); intro left9 mom9 parts9 tl9 tm9 tp9 x9 dx9 t9 h9 tk9 hT9 F' N'; have d1 := TurnOk.d1 hT9; have d2 := TurnOk.d2 hT9; have d3 := TurnOk.d3 hT9; obtain ⟨e1, e2, e3, f1, f2, f3, f4, f5, f6, f7, f8, f9, f10, f11, f12, -, -, -, f16⟩ := hT9; (try dsimp only)))
local macro_rules | `(tactic| walk_at "call ref") => `(tactic| (k_here; (with_reducible show wpAny _ _ (call (Value.ref 197) _ _) _ _ _); k_dflt ((show wpAny _ _ (call (Value.ref 197) [Value.ref _, Value.ref _, Value.ref _, Value.int _ _]) _ _ _); refine' test_law ?B ?F ?X ?N ?T ?hk ?hd ?hu ?hC ?n1 ?n2 ?n5 ?n6 ?n7 ?n8 ?ls ?le ?hs ?fs ?he ?fe ?n3 ?n4 ?i1 ?i2 ?m1 ?m2 ?i3 ?tab ?lok ?h0 ?h9 ?m0 ?m9 ?l0 ?l9 ?g0 ?g9 ?_; (case hC => assumption); walk_at "use common"; (case n1 => first | k_mem | ktn_no "test: n1"); (case n2 => first | k_mem | ktn_no "test: n2"); (case n5 => first | k_mem | ktn_no "test: n5"); (case n6 => first | k_mem | ktn_no "test: n6"); (case n7 => first | k_mem | ktn_no "test: n7"); (case n8 => first | k_mem | ktn_no "test: n8"); (case n3 => first | k_mem | ktn_no "test: n3"); (case n4 => first | k_mem | ktn_no "test: n4"); (case i1 => first | k_mem | ktn_no "test: i1"); (case i2 => first | k_mem | ktn_no "test: i2"); (case m1 => first | k_mem | ktn_no "test: m1"); (case m2 => first | k_mem | ktn_no "test: m2"); (case i3 => first | k_mem | ktn_no "test: i3"); (case ls => first | assumption | ktn_no "test: ls"); (case le => first | assumption | ktn_no "test: le"); (case hs => first | assumption | ktn_no "test: hs"); (case fs => first | assumption | ktn_no "test: fs"); (case he => first | assumption | ktn_no "test: he"); (case fe => first | assumption | ktn_no "test: fe"); (case tab => first | assumption | ktn_no "test: tab"); (case lok => first | assumption | ktn_no "test: lok"); (case h0 => first | assumption | ktn_no "test: h0"); (case h9 => first | assumption | ktn_no "test: h9"); (case m0 => first | assumption | ktn_no "test: m0"); (case m9 => first | assumption | ktn_no "test: m9"); (case l0 => first | assumption | ktn_no "test: l0"); (case l9 => first | assumption | ktn_no "test: l9"); (case g0 => first | omega | ktn_no "test: g0"); (case g9 => first | omega | ktn_no "test: g9")); intro h9 tk9 F' N'; (try dsimp only)))
local macro_rules | `(tactic| walk_at "getAttr ref") => `(tactic| (k_here; k_dflt ((with_reducible show wpAny _ _ (getAttr (Value.ref _) (Str.ofString "reset_time") _) _ _ _); refine' attrW0 ?B ?F ?X ?N ?T ?hk ?hd ?hu ?hI ?hv ?_; walk_at "use common"; (case hI => first | assumption | exact instEv_N (by k_mem) (by k_mem)); (case hv => rfl)); intro h9 tk9 F' N'; (try dsimp only)))
local macro_rules | `(tactic| walk_at "getAttr ref") => `(tactic| (k_here; k_dflt ((with_reducible show wpAny _ _ (getAttr (Value.ref _) (Str.ofString "remaining") _) _ _ _); refine' attrW1 ?B ?F ?X ?N ?T ?hk ?hd ?hu ?hI ?hv ?_; walk_at "use common"; (case hI => first | assumption | exact instEv_N (by k_mem) (by k_mem)); (case hv => rfl)); intro h9 tk9 F' N'; (try dsimp only)))
local macro_rules | `(tactic| walk_at "exec For") => `(tactic| (k_here; (with_reducible show wpAny _ _ (exec (Stmt.For (Expr.Tuple _ _ _) _ _ [] _) _) _ _ _); (rename Fr _ _ _ _ => F9); (with_unfolding_all refine For_turns F9 ?_)))
local macro_rules | `(tactic| k_mem) => `(tactic| with_reducible assumption)
local macro_rules | `(tactic| walk_at "subscriptTail Name Constant ref int") => `(tactic| (k_here; (with_reducible show wpAny _ _ (subscriptTail _ _ (Value.ref _) (Value.int 0 _)) _ _ _); k_dflt ((with_unfolding_all refine' now_item ?N ?hm ?_ ?hs); (case N => k_asm); (case hm => k_mem); (case hs => with_unfolding_all rfl)); intro t9))
local macro_rules | `(tactic| walk_at "call builtin:list.append") => `(tactic| (k_here; (show wpAny _ _ (call (Value.builtin "list.append") [Value.ref _, _]) _ _ _); k_dflt (refine' append_K ?k1 (drop3 ?k2) ?k3 ?_ ?z; (case k1 => k_asm); (case k2 => k_asm); (case k3 => k_upd); (case z => assumption); k_whole); intro h' F' N'))
local macro_rules | `(tactic| walk_at "compareOp Lt int int") => `(tactic| (k_here; dsimp only))
local macro_rules | `(tactic| walk_at "compareOp LtE int int") => `(tactic| (k_here; dsimp only))
local macro_rules | `(tactic| walk_at "truthy bool") => `(tactic| (k_here; dsimp only))
-- macs: C0 F0 L0 L4a L4b
set_option maxHeartbeats 8000000 in
noncomputable def W4 : PSigma fun G : World → Shared → Shared → Addr → List Int → Nat → Heap → Prop =>
    (Wrap (∀ (w : World) (s₀ s₁ : Shared) (fa : Addr) (ns : List Int) (tk : Nat) (h : Heap) (p : Program) (loose : List Str) (mean : ExcName → Option Value) (mg mb : Str → Option Value) (base : Str → Option Value) (most len : Int) (rl : Addr) (qm : Tok) (ps : Array Value) (rvs : List Value) (rn : Nat) (log : List (Int × Int)) (now1 : Int) (ent : List (Addr × Obj)),
      After2 w s₀ s₁ h p loose mean mg mb base most len rl qm ps rvs rn log now1 ent → G w s₀ s₁ fa ns tk h)) →
    ∀ (w : World) (s₀ s₁ : Shared) (fa : Addr) (ns : List Int) (tk : Nat) (r : Addr) (h : Heap) (p : Program) (loose : List Str) (mean : ExcName → Option Value) (mg mb : Str → Option Value) (base : Str → Option Value) (most len : Int) (ll nm x3 d3 x2 d2 x1 d1 ds de dv f cq nl : Addr) (t1 t2 t3 t4 t5 t6 t7 t8 tm tl u1 tA qm ql : Tok) (fo co oq : Obj) (ps : Array Value) (now : Int) (tn : Tok) (log : List (Int × Int)) (lvs : List Value) (ln : Nat) (os oe : Obj) (kvs kve : List (Str × Value)) (c1 c2 : List (Str × Int)) (l : Addr) (vs : List Value) (tl1 : List (Addr × Obj)) (rl : Addr) (ra rb rc : Tok),
      Start2 w s₀ s₁ r h p loose mean mg mb base most len ll nm x3 d3 x2 d2 x1 d1 ds de dv f cq nl t1 t2 t3 t4 t5 t6 t7 t8 tm tl u1 tA qm ql fo co oq ps now tn log lvs ln os oe kvs kve c1 c2 l vs tl1 rl ra rb rc → W3.1 w s₀ s₁ fa ns tk r h := by
  refine' ⟨_, fun hR => _⟩
  rotate_left
  · intro w s₀ s₁ fa ns tk r h p loose mean mg mb base most len ll nm x3 d3 x2 d2 x1 d1 ds de dv f cq nl t1 t2 t3 t4 t5 t6 t7 t8 tm tl u1 tA qm ql fo co oq ps now tn log lvs ln os oe kvs kve c1 c2 l vs tl1 rl ra rb rc hS
    obtain ⟨F, N, ⟨B, X, T, hg, hC, hd, ls, le, ch, m0, m9, l0, l9⟩, hr, hs, fs, he, fe, hlog, off, offr, tab, lok, wt, l12, n0, n9, md, ch2, ch3⟩ := hS
    intro _
    w_on
    revert X; (have hM : PySem.Challenge.rw_ji0057_01.name = PySem.Challenge.rw_ji0057_01.name := rfl); revert hM; k_fill; intro hM X; clear hM
    refine loop2 (nl := nl) (rl := rl) ((ds, os) :: (de, oe) :: (ll, listOf lvs.toArray ln) :: (l, listOf vs.toArray 0) :: (nm, tupK [.str (Str.ofString "ann") tA].toArray 0) :: (x3, instObj 423 d3) :: (d3, dictOf [⟨PySem.PyData.keyHash w.params (Str.ofString "namespace"), .str (Str.ofString "namespace") t5, .str (Str.ofString "LIMITER") t8⟩, ⟨PySem.PyData.keyHash w.params (Str.ofString "amount"), .str (Str.ofString "amount") t6, .int most tm⟩, ⟨PySem.PyData.keyHash w.params (Str.ofString "multiples"), .str (Str.ofString "multiples") t7, .int len tl⟩] 3) :: (x2, instObj 218 d2) :: (d2, dictOf [⟨PySem.PyData.keyHash w.params (Str.ofString "storage"), .str (Str.ofString "storage") u1, .ref x1⟩] 1) :: (x1, instObj 568 d1) :: (d1, dictOf [⟨PySem.PyData.keyHash w.params (Str.ofString "clock"), .str (Str.ofString "clock") t1, .ref f⟩, ⟨PySem.PyData.keyHash w.params (Str.ofString "storage"), .str (Str.ofString "storage") t2, .ref ds⟩, ⟨PySem.PyData.keyHash w.params (Str.ofString "expirations"), .str (Str.ofString "expirations") t3, .ref de⟩, ⟨PySem.PyData.keyHash w.params (Str.ofString "events"), .str (Str.ofString "events") t4, .ref dv⟩] 4) :: (f, fo) :: (cq, oq) :: (s₁.heap.objs.size + 1, co) :: (572, tabObj ps) :: tl1) [Str.ofString "start", Str.ofString "end", Str.ofString "before", Str.ofString "this", Str.ofString "second", Str.ofString "cost", Str.ofString "stats", Str.ofString "moment", Str.ofString "parts", Str.ofString "left", Str.ofString "weight"] (Inv2 len most log now) ⟨now, tn, [], 0, []⟩ ?hh hr (by omega) (by omega) F N ?hn (show DatAll _ [] [] from .nil) ⟨by simp, rfl⟩ ?turn ?done
    case hh => rfl
    case hn => intro p hp; rw [List.append_nil] at hp; exact hp
    case turn =>
      intro c tl2 pre k t u h tk own e1 e2 hsep hoff hf hinv F' N'
      obtain ⟨nw, tn2, rvs, rn, rows⟩ := c
      obtain ⟨i1, i2⟩ := hinv
      dsimp only [Led2, List.cons_append, List.nil_append] at N' i1 i2
      have hn0 : now ≤ nw := by omega
      have g0 : 1000000 ≤ nw := by omega
      have g9 : nw ≤ 2000000000 := by omega
      have hz2 : rvs.toArray.size ≤ sizeLine := by have q := DatAll.length hf; rw [List.size_toArray, q, sizeLine_eq, i2]; simp only [rowDat, List.length_map, List.length_range]; omega
      clear F N
      w_strict (repeat' ((fail_if_success (with_reducible show wpAny _ _ (pyIter (Value.ref _)) (fun _ _ => TurnsAt _ _ _ _ _ _ _ _ _ _ _) _ _)); first | (k_unfold; (try dsimp only)) | (k_end; wrow_close) | walk1 | (dsimp only; walk1) | (leave1; walk_say "STEP leave1"; try dsimp only) | fail "no step"))
      simp only [one_getD] at *
      rename Fr _ _ _ _ => FF
      rename News _ _ _ _ => NN
      refine loopI (l := ll) (vs := lvs) (nn := ln) (log := log) (nw - Int.fmod nw len) len ?ih ?il ?id FF NN (by with_unfolding_all rfl) (by with_unfolding_all rfl) ?it ?idone
      case ih => rfl
      case il => k_mem
      case id => exact hlog.mono fun p hp => List.mem_cons_of_mem _ (List.mem_cons_of_mem _ (List.mem_cons_of_mem _ (List.mem_cons_of_mem _ (List.mem_cons_of_mem _ (List.mem_append_left (tl2 ++ own) hp)))))
      case it =>
        intro ic itl lp ip ls ia iN q1 q2 iu ih itk iown eL eb et hm hsepI hoffI F' N'
        obtain ⟨b, t', tb, tt⟩ := ic
        obtain ⟨x, y⟩ := ip
        have hm2 := List.mem_append_left iown hm
        simp only [List.cons_append, List.append_assoc] at N' hm2
        dsimp only [psI] at F' eb et
        clear FF NN
        w_strict k_steps
        all_goals (
          refine' kd_end (⟨_, _, _, _⟩ : IB) [] hsepI ?kF ?kN ?kn ?ko rfl ?kb ?kw ?kk ?kr trivial ?kp
          case kF => assumption
          case kN => assumption
          case kn => (intro p hp; have h9 := List.mem_append_left iown hp; simpa only [List.nil_append, List.cons_append, List.append_assoc] using h9)
          case ko => (intro p hp; repeat (first | assumption | refine List.mem_cons_of_mem _ ?_ | refine List.mem_append_right _ ?_))
          case kb => (intro _ h; nomatch h)
          case kw => (intro _ h; nomatch h)
          case kk => kst_all
          case kr => (intro z g1 g2 g3; have a1 := g2 _ List.mem_cons_self; have a2 := g2 _ (List.mem_cons_of_mem _ List.mem_cons_self); dsimp only at a1 a2; have a3 : z ≠ Str.ofString "cost" := (by intro q; subst q; simp at g3); simp only [kstB, if_neg g1, if_neg a1, if_neg a2, if_neg a3, g3, Bool.false_eq_true, if_false])
          case kp => (refine ⟨lp ++ [(x, y)], ls, by rw [eL, List.append_assoc]; rfl, by simp [logDat], ?_, ?_⟩; (· rw [cntB_snoc, ← eb]; dsimp only; split <;> (try split) <;> omega); (· rw [cntT_snoc, ← et]; dsimp only; split <;> omega)))
      case idone =>
        intro ic itl iu ih itk eb et hoffI F' N'
        obtain ⟨b, t', tb, tt⟩ := ic
        dsimp only [psI, kstB] at F' eb et
        simp only [List.cons_append, List.append_assoc] at N'
        have hoo : OwnOff (tl1 ++ (tl2 ++ (own ++ itl))) [nl, rl] := off_two off (by simp) offr hoff (by simp) (by simp) hoffI (by simp) (by simp)
        have eP : cnt len log (nw / len - 1) = b := by rw [eb, cntB_eq l0 lok hn0]
        have eC : cnt len log (nw / len) = t' := by rw [et, cntT_eq l0 lok hn0]
        have hz := hz_of lok l0 hn0 md
        have hW : Wt len log nw ≤ most := Int.le_trans (Wt_le lok l0 (Int.le_refl _) hn0) wt
        have fm0 := Int.fmod_nonneg_of_pos nw (show 0 < len by omega)
        have fm1 := Int.fmod_lt_of_pos nw (show 0 < len by omega)
        clear FF NN eb et
        w_strict k_steps
        all_goals (
          expose_names
          simp only [List.push_toArray] at *
          refine' kd_end (⟨nw + 1, _, rvs ++ [.ref D'], rn + 1, rows ++ [(nw, left9, Int.fdiv mom9 parts9)]⟩ : L2S) [(D', _)] hsep ?kF ?kN ?kn ?ko rfl ?kb ?kw ?kk ?kr ?kf ?kp
          case kF => assumption
          case kN => assumption
          case kn => exact in_all2 (b := [(ds, os), (de, oe), (ll, listOf lvs.toArray ln), (l, listOf vs.toArray 0)] ++ [(nm, tupK [.str (Str.ofString "ann") tA].toArray 0), (x3, instObj 423 d3), (d3, dictOf [⟨PySem.PyData.keyHash w.params (Str.ofString "namespace"), .str (Str.ofString "namespace") t5, .str (Str.ofString "LIMITER") t8⟩, ⟨PySem.PyData.keyHash w.params (Str.ofString "amount"), .str (Str.ofString "amount") t6, .int most tm⟩, ⟨PySem.PyData.keyHash w.params (Str.ofString "multiples"), .str (Str.ofString "multiples") t7, .int len tl⟩] 3), (x2, instObj 218 d2), (d2, dictOf [⟨PySem.PyData.keyHash w.params (Str.ofString "storage"), .str (Str.ofString "storage") u1, .ref x1⟩] 1), (x1, instObj 568 d1), (d1, dictOf [⟨PySem.PyData.keyHash w.params (Str.ofString "clock"), .str (Str.ofString "clock") t1, .ref f⟩, ⟨PySem.PyData.keyHash w.params (Str.ofString "storage"), .str (Str.ofString "storage") t2, .ref ds⟩, ⟨PySem.PyData.keyHash w.params (Str.ofString "expirations"), .str (Str.ofString "expirations") t3, .ref de⟩, ⟨PySem.PyData.keyHash w.params (Str.ofString "events"), .str (Str.ofString "events") t4, .ref dv⟩] 4), (f, fo), (cq, oq), (s₁.heap.objs.size + 1, co), (572, tabObj ps)])
          case ko => (intro p hp; repeat (first | exact List.mem_append_left _ hp | refine List.mem_cons_of_mem _ ?_ | refine List.mem_append_right _ ?_))
          case kk => (intro _ h; nomatch h)
          case kb => kd_addB
          case kw => kd_addW
          case kr =>
            intro z g1 _ g3
            simp only [List.contains_cons, List.contains_nil, Bool.or_false, Bool.or_eq_false_iff, beq_eq_false_iff_ne, ne_eq] at g3
            obtain ⟨s1, s2, s3, s4, s5, s6, s7, s8, s9, s10, s11⟩ := g3
            simp [g1, s1, s2, s3, s4, s5, s6, s7, s8, s9, s10, s11]
          case kf => exact row_snoc (hf.mono kd_sub) (kd_new List.mem_cons_self)
          case kp => exact inv2_next i1 i2 (by assumption) (by assumption))
    case done =>
      intro c tl2 u h tk9 hoff hf hinv F' N'
      obtain ⟨nw, tn2, rvs, rn, rows⟩ := c
      obtain ⟨i1, i2⟩ := hinv
      dsimp only at i2
      rw [rangeKs_length] at i2
      subst i2
      have F2 := fr_two (v := .ref rl) (w := .int most qm) F' (by with_unfolding_all rfl) (by with_unfolding_all rfl)
      have k := hR.out w s₀ s₁ fa ns tk9 h p loose mean mg mb _ most len rl qm ps rvs rn log now _
        ⟨F2, drop_one N', by simp, hf, B, X, T, hg, m0, m9, l0, l9, lok, wt, n0, n9, md⟩
      have ht : True := trivial
      (try dsimp only)
      revert ht
      exact k

end
section
variable {prog : Program} {w : World} {A : Around} {E : Value → Shared → Prop} {s : Shared} {h₀ : Heap} {L9 l : Addr}
theorem rows_len {news ent : List (Addr × Obj)} {us : List Value} {n : Nat} {k L M now1 : Int} {log : List (Int × Int)} {Q : Value → Shared → Prop} (N : News h₀ L9 s.heap news) (hm : (l, listOf us.toArray n) ∈ news) (hd : DatAll ent us (rowDat ((List.range k.toNat).map (rowAt L M log now1)))) (h0 : 0 ≤ k) (h9 : k ≤ 100)
    (h : ∀ t tk, Q (.int k t) { s with toks := tk }) : wpAny (model prog w) A (call (.builtin "len") [.ref l]) Q E s := by
  have e : ((rowDat ((List.range k.toNat).map (rowAt L M log now1))).length : Int) = k := by simp only [rowDat, List.length_map, List.length_range]; omega
  exact kd_len N hm hd (by rw [e]; omega) (by rw [e]; exact h _ _)
theorem row_item {value slice : PySem.Expr} {news ent : List (Addr × Obj)} {us : List Value} {n : Nat} {i k L M now1 : Int} {u : Tok} {log : List (Int × Int)} {Q : Value → Shared → Prop} (N : News h₀ L9 s.heap news) (hm : (l, listOf us.toArray n) ∈ news) (hd : DatAll ent us (rowDat ((List.range k.toNat).map (rowAt L M log now1)))) (h0 : 0 ≤ i) (h1 : i < k) (h9 : k ≤ 100)
    (h : ∀ a n q1 q2 q3, (a, tupK [.int (now1 + i) q1, .int (M - Wt L log (now1 + i)) q2, .int (tel L log (now1 + i)) q3].toArray n) ∈ ent → Q (.ref a) s)
    (hs : subscripted slice false (.ref l) (.int i u) = operate [.ref l, .int i u] (getItem (.ref l) (.int i u)) := by with_unfolding_all rfl) :
    wpAny (model prog w) A (subscriptTail value slice (.ref l) (.int i u)) Q E s := by
  refine kd_item N hm hd h0 (by simp only [rowDat, List.length_map, List.length_range]; omega) (by omega) (fun v d e _ hD => ?_) hs
  have hk : i.toNat < k.toNat := by omega
  have hi : ((i.toNat : Nat) : Int) = i := by omega
  rw [rowDat, List.getElem?_map, List.getElem?_map, List.getElem?_range hk] at e
  simp only [Option.map_some, Option.some.injEq, rowAt, hi] at e
  subst e
  obtain ⟨a, n', q1, q2, q3, rfl, hm'⟩ := trio_in hD
  exact h a n' q1 q2 q3 hm'
theorem rows_mem {L M now1 k : Int} {log : List (Int × Int)} {i : Nat} {d : Dat} (h : d ∈ (rowDat ((List.range k.toNat).map (rowAt L M log now1))).drop i) : ∃ j : Nat, i ≤ j ∧ j < k.toNat ∧ d = .tuple [.int (now1 + j), .int (M - Wt L log (now1 + j)), .int (tel L log (now1 + j))] := by
  obtain ⟨q, hq, e⟩ := List.mem_iff_getElem.mp h
  rw [List.getElem_drop] at e
  simp only [rowDat, List.getElem_map, List.getElem_range, rowAt] at e
  rw [List.length_drop] at hq
  simp only [rowDat, List.length_map, List.length_range] at hq
  exact ⟨i + q, by omega, by omega, e.symm⟩
end
/-- what the third loop asks of a row -/
theorem row_ok {L now1 i : Int} {log : List (Int × Int)} (lok : LogOk now1 log) (hL : 2 ≤ L) (md : now1 % L ≠ 0) (h0 : 0 ≤ i) : Wt L log (now1 + i) ≤ 0 ∨ (now1 + i ≤ tel L log (now1 + i) ∧ tel L log (now1 + i) < now1 + 2 * L) := by
  rcases Int.lt_or_le 0 (Wt L log (now1 + i)) with h | h
  · exact .inr ⟨tel_ge lok hL, tel_lt lok hL (Int.le_refl _) (by omega) md h⟩
  · exact .inl h
theorem pair_ok {L now1 i j : Int} {log : List (Int × Int)} (lok : LogOk now1 log) (hL : 2 ≤ L) (h0 : 0 ≤ i) (hij : i ≤ j) :
    Wt L log (now1 + j) ≤ Wt L log (now1 + i) ∧ (Wt L log (now1 + i) ≤ 0 ∨ tel L log (now1 + i) < now1 + j ∨ Wt L log (now1 + j) = Wt L log (now1 + i)) ∧ (Wt L log (now1 + i) ≤ 0 ∨ now1 + j ≠ tel L log (now1 + i) + 1 ∨ Wt L log (now1 + j) < Wt L log (now1 + i)) := by
  refine ⟨Wt_le lok hL (by omega) (by omega), ?_, ?_⟩
  · rcases Int.lt_or_le 0 (Wt L log (now1 + i)) with h | h
    · rcases Int.lt_or_le (tel L log (now1 + i)) (now1 + j) with h9 | h9
      · exact .inr (.inl h9)
      · exact .inr (.inr (stays lok hL (by omega) (by omega) h h9))
    · exact .inl h
  · rcases Int.lt_or_le 0 (Wt L log (now1 + i)) with h | h
    · by_cases h9 : now1 + j = tel L log (now1 + i) + 1
      · rw [h9]; exact .inr (.inr (drops lok hL (by omega) h))
      · exact .inr (.inl h9)
    · exact .inl h
section
variable {w : World} {A : Around} {E : Value → Shared → Prop} {s : Shared} {env : Env} {h₀ : Heap} {x : Str} {body : List Stmt} {Q : Flow → Shared → Prop}
/-- a loop over a range that changes names alone -/
theorem loop3 {r : Addr} {b₀ : Int} {t₀ u₀ v₀ : Tok} {m₀ : Str → Option Value} {news : List (Addr × Obj)} (stored : List Str)
    (hh : A.handled = none) (hr : IsRange s.heap r 0 b₀ 1 t₀ u₀ v₀) (hb : 0 ≤ b₀) (hb9 : b₀ ≤ 100) (F : Fr h₀ env.locals s.heap m₀) (N : News h₀ env.locals s.heap news)
    (turn : ∀ tl (k : Int) t (u : Str → Option Value) h tk own (P : List Int), 0 ≤ k → k < b₀ → KdSep own tl (news.map (·.1)) → OwnOff (tl ++ own) (news.map (·.1)) →
      Fr h₀ env.locals h (fun y => if y = x then some (.int k t) else if stored.contains y then u y else m₀ y) → News h₀ env.locals h (news ++ (tl ++ own)) →
      wpAny (model PG w) A (execs body env) (InvPostG h₀ env.locals (KdS (fun _ : Unit => []) news (fun _ => []) (fun _ _ => True) x stored m₀ (fun (_ : List Int) _ => True) (news.map (·.1)) P) own { s with heap := h, toks := tk } Q) E { s with heap := h, toks := tk })
    (done : ∀ tl (u : Str → Option Value) h tk, Fr h₀ env.locals h (fun y => if y = x then u y else if stored.contains y then u y else m₀ y) → News h₀ env.locals h (news ++ tl) → Q .next { s with heap := h, toks := tk }) :
    wpAny (model PG w) A (pyIter (.ref r)) (fun it s₂ => LoopAtV PG w A h₀ env x body Q E it s₂) E s :=
  kd_range (n := b₀.toNat) (fun _ : Unit => []) news (fun _ => []) (fun _ _ => True) stored (fun _ _ => True) (news.map (·.1)) () hh hr (small_one (by decide) (by decide) (by omega) (by omega)) (by unfold Builtin.Range.rangeSize; rw [if_pos (by decide)]; split <;> omega) F N (fun p hp => by simpa using hp) (fun _ => rfl) trivial (fun _ h => nomatch h) trivial
    (fun _ tl pre k t u h tk own e1 e2 hs ho _ _ F' N' => turn tl k t u h tk own (pre ++ [k]) (by omega) (by omega) hs ho F' N') (fun _ tl u h tk _ _ _ F' N' => done tl u h tk F' N')
end
section
variable {w : World} {A : Around} {E : Value → Shared → Prop} {s : Shared} {env : Env} {h₀ : Heap} {target : PySem.Expr} {body : List Stmt} {Q : Flow → Shared → Prop}
/-- a loop over a list of rows that changes names alone -/
theorem loopR {l : Addr} {vs : List Value} {nn : Nat} {m₀ : Str → Option Value} {news : List (Addr × Obj)} {ds : List Dat} (x : Str) (stored : List Str)
    (hh : A.handled = none) (hl : (l, listOf vs.toArray nn) ∈ news) (hd : DatAll news vs ds) (F : Fr h₀ env.locals s.heap m₀) (N : News h₀ env.locals s.heap news)
    (turn : ∀ tl d v (u : Str → Option Value) h tk own (P : List Dat), d ∈ ds → DatIn (news ++ tl) v d → KdSep own tl (news.map (·.1)) → OwnOff (tl ++ own) (news.map (·.1)) →
      Fr h₀ env.locals h (fun y => if y = x then u y else if stored.contains y then u y else m₀ y) → News h₀ env.locals h (news ++ (tl ++ own)) →
      wpAny (model PG w) A (assign target env v) (fun _ s₃ => wpAny (model PG w) A (execs body env) (InvPostG h₀ env.locals (KdS (fun _ : Unit => []) news (fun _ => []) (fun _ _ => True) x stored m₀ (fun (_ : List Dat) _ => True) (news.map (·.1)) P) own { s with heap := h, toks := tk } Q) E s₃) E { s with heap := h, toks := tk })
    (done : ∀ tl (u : Str → Option Value) h tk, Fr h₀ env.locals h (fun y => if y = x then u y else if stored.contains y then u y else m₀ y) → News h₀ env.locals h (news ++ tl) → Q .next { s with heap := h, toks := tk }) :
    wpAny (model PG w) A (pyIter (.ref l)) (fun it s₂ => TurnsAt PG w A h₀ env target body Q E it s₂) E s :=
  turns_list (x := x) (ds := ds) (fun _ : Unit => []) news (fun _ => []) (fun _ _ => True) stored (fun _ _ => True) (news.map (·.1)) () hh hl (by rw [List.append_nil]; exact hd) F N (fun p hp => by simpa using hp) (fun _ => rfl) trivial (fun _ h => nomatch h) trivial
    (fun _ tl pre d post v u h tk own _ hm hD hs ho _ _ F' N' => turn tl d v u h tk own (pre ++ [d]) hm hD hs ho F' N') (fun _ tl u h tk _ _ _ F' N' => done tl u h tk F' N')
end

section
local macro_rules | `(tactic| walk_at "use common") => `(tactic| (walk_at "use commonZ"; (case N => first | k_asm | ktn_no "use: N")))
local macro_rules | `(tactic| walk_at "use commonZ") => `(tactic| (
  (case B => first | k_asm | ktn_no "use: B")
  (case F => first | k_asm | ktn_no "use: F")
  (case X => first | k_asm | ktn_no "use: X")
  (case T => first | k_asm | ktn_no "use: T")
  (case hk => first | exact rfl | assumption | ktn_no "use: hk")
  (case hd => first | ktr_room | ktn_no "use: hd")
  (case hu => first | ktr_units | ktn_no "use: hu")))
local macro_rules | `(tactic| k_mem) => `(tactic| assumption)
local macro_rules | `(tactic| walk_at "exec For") => `(tactic| (k_here; (with_reducible show wpAny _ _ (exec (Stmt.For (Expr.Tuple _ _ _) _ _ [] _) _) _ _ _); (rename Fr _ _ _ _ => F9); (with_unfolding_all refine For_turns F9 ?_)))
local macro_rules | `(tactic| walk_at "call builtin:len") => `(tactic| (k_here; k_dflt ((show wpAny _ _ (call (Value.builtin "len") [Value.ref _]) _ _ _); refine' rows_len ?N ?hm ?hd ?h0 ?h9 ?_; (case N => k_asm); (case hm => k_mem); (case hd => assumption); (case h0 => omega); (case h9 => omega)); intro t9 tk9; (try dsimp only)))
local macro_rules | `(tactic| walk_at "subscriptTail") => `(tactic| (k_here; k_dflt ((show wpAny _ _ (subscriptTail _ _ (Value.ref _) (Value.int _ _)) _ _ _); with_unfolding_all refine' row_item ?N ?hm ?hd ?h0 ?h1 ?h9 ?_ ?hs; (case N => k_asm); (case hm => k_mem); (case hd => assumption); (case h0 => omega); (case h1 => omega); (case h9 => omega); (case hs => with_unfolding_all rfl)); intro a9 n9 q19 q29 q39 hm9))
local macro_rules | `(tactic| walk_at "subscriptTail Name Slice ref ref") => `(tactic| (k_here; (with_reducible show wpAny _ _ (subscriptTail _ (PySem.Expr.Slice _ _ none _) (Value.ref _) (Value.ref _)) _ _ _); k_dflt (refine' kmk_slice_lit ?F ?N ?l ?p ?q ?e ?_ ?s ?t ?z; (case F => k_asm); (case N => k_asm); (case l => kmk_list); (case p => kmk_part); (case q => kmk_part); (case e => exact slice_from (by omega)); (case s => with_unfolding_all rfl); (case t => kmk_pure); (case z => assumption)); intro D' h' F' N' l1))
local macro_rules | `(tactic| walk_at "subscriptTail Name Constant ref int") => `(tactic| (k_here; (with_reducible show wpAny _ _ (subscriptTail _ _ (Value.ref _) (Value.int _ _)) _ _ _); k_dflt (refine' item_tupleT ?t ?a ?b ?c ?d ?_; (case t => exact News.isTup (by k_asm) (by k_mem)); (case a => decide); (case b => decide); (case c => rfl); (case d => rfl); k_whole)))
local macro_rules | `(tactic| k_mem) => `(tactic| exact List.mem_append_left _ (by assumption))
-- macs: C0 L5a
set_option maxHeartbeats 8000000 in
theorem P5 : ∀ (w : World) (s₀ s₁ : Shared) (fa : Addr) (ns : List Int) (tk : Nat) (h : Heap) (p : Program) (loose : List Str) (mean : ExcName → Option Value) (mg mb : Str → Option Value) (base : Str → Option Value) (most len : Int) (rl : Addr) (qm : Tok) (ps : Array Value) (rvs : List Value) (rn : Nat) (log : List (Int × Int)) (now1 : Int) (ent : List (Addr × Obj)),
      After2 w s₀ s₁ h p loose mean mg mb base most len rl qm ps rvs rn log now1 ent → W4.1 w s₀ s₁ fa ns tk h := by
  intro w s₀ s₁ fa ns tk h p loose mean mg mb base most len rl qm ps rvs rn log now1 ent hS
  obtain ⟨F, N, hm, dat, B, X, T, hg, m0, m9, l0, l9, lok, wt, n0, n9, md⟩ := hS
  have hz : rvs.toArray.size ≤ sizeLine := by
    have q := dat.length
    rw [List.size_toArray, q, sizeLine_eq]
    simp only [rowDat, List.length_map, List.length_range]
    omega
  have hlast : Wt len log (now1 + (2 * len + 1 - 1)) = 0 := by
    have e : now1 + (2 * len + 1 - 1) = now1 + 2 * len := by omega
    rw [e]
    exact Wt_last lok l0 (Int.le_refl _)
  intro _
  w_on
  revert X; (have hM : PySem.Challenge.rw_ji0057_01.name = PySem.Challenge.rw_ji0057_01.name := rfl); revert hM; k_fill; intro hM X; clear hM
  w_strict (repeat' ((fail_if_success (with_reducible show wpAny _ _ (pyIter (Value.ref _)) (fun _ _ => LoopAtV _ _ _ _ _ _ _ _ _ _ _) _ _)); first | (k_unfold; (try dsimp only)) | (k_end; wrow_close) | walk1 | (dsimp only; walk1) | (leave1; walk_say "STEP leave1"; try dsimp only) | fail "no step"))
  rename Fr _ _ _ _ => FF
  rename News _ _ _ _ => NN
  rename IsRange _ _ _ _ _ _ _ _ => hr
  refine loop3 [Str.ofString "second", Str.ofString "left", Str.ofString "told", Str.ofString "later", Str.ofString "other", Str.ofString "unused"] rfl hr (by omega) (by omega) FF NN ?turn ?done
  case turn =>
    intro tl k t u h tk own P k0 k1 hsep hoff F' N'
    simp only [List.cons_append] at N'
    have rk := row_ok (i := k) lok l0 md k0
    have hmT : (572, tabObj ps) ∈ (rl, listOf rvs.toArray rn) :: (ent ++ (tl ++ own)) := List.mem_cons_of_mem _ (List.mem_append_left _ hm)
    clear FF NN hr
    w_strict (repeat' ((fail_if_success (with_reducible show wpAny _ _ (pyIter (Value.ref _)) (fun _ _ => TurnsAt _ _ _ _ _ _ _ _ _ _ _) _ _)); first | (k_unfold; (try dsimp only)) | (k_end; wrow_close) | walk1 | (dsimp only; walk1) | (leave1; walk_say "STEP leave1"; try dsimp only) | fail "no step"))
    all_goals (
      rename Fr _ _ _ _ => FF
      rename News _ _ _ _ => NN
      expose_names
      refine loopR (l := D') (vs := rvs.drop k.toNat) (nn := 0) (ds := (rowDat ((List.range (2 * len + 1).toNat).map (rowAt len most log now1))).drop k.toNat) (Str.ofString "later") [Str.ofString "other", Str.ofString "unused"] rfl List.mem_cons_self ?id FF NN ?it ?idone
      case id => exact (DatAll.dropped dat k.toNat).mono fun p hp => List.mem_cons_of_mem _ (List.mem_cons_of_mem _ (List.mem_append_left _ hp))
      case it =>
        intro itl d v iu ih itk iown iP hdd hv hsepI hoffI F' N'
        obtain ⟨j, j1, j2, rfl⟩ := rows_mem hdd
        obtain ⟨ia, iN, q1, q2, q3, rfl, hm'⟩ := trio_in hv
        obtain ⟨pk1, pk2, pk3⟩ := pair_ok (j := (j : Int)) lok l0 k0 (by omega)
        have hm2 := List.mem_append_left iown hm'
        have hmI : (572, tabObj ps) ∈ (D', listOf (rvs.drop k.toNat).toArray 0) :: (rl, listOf rvs.toArray rn) :: (ent ++ (tl ++ (own ++ (itl ++ iown)))) := List.mem_cons_of_mem _ (List.mem_cons_of_mem _ (List.mem_append_left _ hm))
        simp only [List.cons_append, List.append_assoc] at N' hm2
        clear FF NN
        w_strict k_steps
        all_goals (
          refine' kd_end () [] hsepI ?kF ?kN ?kn ?ko rfl ?kb ?kw ?kk ?kr trivial trivial
          case kF => assumption
          case kN => assumption
          case kn => (intro p hp; simp only [List.nil_append, List.cons_append, List.mem_cons, List.mem_append] at hp ⊢; rcases hp with h | h | (h | h | h) | h <;> simp [h])
          case ko => (intro p hp; simp [hp])
          case kb => (intro _ h; nomatch h)
          case kw => (intro _ h; nomatch h)
          case kk => (intro _ h; nomatch h)
          case kr => kst_same)
      case idone =>
        intro itl iu ih itk F' N'
        simp only [List.cons_append, List.append_assoc] at N'
        clear FF NN
        w_strict k_steps
        all_goals exact ())
  case done =>
    intro tl u h tk F' N'
    simp only [List.cons_append] at N'
    have hmT : (572, tabObj ps) ∈ (rl, listOf rvs.toArray rn) :: (ent ++ tl) := List.mem_cons_of_mem _ (List.mem_append_left _ hm)
    clear FF NN hr
    w_strict k_steps

end
theorem walk : PremOf hd := W1.2.2 ⟨PC⟩ ⟨W2.2 ⟨W3.2 ⟨W4.2 ⟨P5⟩⟩⟩⟩

end Mine
theorem PySem.Challenge.cw_ji0057_01_holds : PySem.Challenge.rw_ji0057_01.Holds :=
  Mine.hd Mine.walk
